import PyProof.Rows.All
import Wide.All
import OpenK.AllK
import Wide.FinOn
import Lean
import PySem.Challenge.RW_op0060_01
set_option Elab.async false
set_option maxRecDepth 100000
set_option linter.unusedVariables false
set_option linter.unusedSimpArgs false
set_option compiler.extract_closed false
set_option genSizeOfSpec false
set_option genSizeOf false
set_option genInjectivity false
section
set_option tactic.hygienic false
open PySem PySem.W PySem.Calls PyProof.Rows
namespace Mine

/-- plain data -/
inductive D where
  | none
  | bool (b : Bool)
  | int (i : Int)
  | str (x : Str)
  | bytes (b : Array UInt8)
  | list (xs : List D)
  | tuple (xs : List D)
  | range (a b c : Int)
  deriving Inhabited

noncomputable abbrev View := Addr → Option Obj

noncomputable def isDat (o : Obj) : Bool := match o.data with
  | .dict _ _ => false
  | .cell _ => false
  | _ => true

mutual
inductive Rep (g : View) : Value → D → Prop
  | none : Rep g .none .none
  | bool (b : Bool) : Rep g (.bool b) (.bool b)
  | int (i : Int) (t : Tok) : Rep g (.int i t) (.int i)
  | str (x : Str) (t : Tok) : Rep g (.str x t) (.str x)
  | bytes (b : Array UInt8) (t : Tok) : Rep g (.bytes b t) (.bytes b)
  | list {a : Addr} {o : Obj} {vs : List Value} {n : Nat} {ds : List D} : g a = some o → o.cls = .type "list" → o.data = .seq vs.toArray n → RepL g vs ds → Rep g (.ref a) (.list ds)
  | tuple {a : Addr} {o : Obj} {vs : List Value} {n : Nat} {ds : List D} : g a = some o → o.cls = .type "tuple" → o.data = .seq vs.toArray n → RepL g vs ds → Rep g (.ref a) (.tuple ds)
  | range {r : Addr} {a b c : Int} {t u v : Tok} : g r = some { cls := .type "range", dict := none, data := .fields #[.int a t, .int b u, .int c v], slots := #[] } → Rep g (.ref r) (.range a b c)
inductive RepL (g : View) : List Value → List D → Prop
  | nil : RepL g [] []
  | cons {v : Value} {d : D} {vs : List Value} {ds : List D} : Rep g v d → RepL g vs ds → RepL g (v :: vs) (d :: ds)
end

theorem rep_lift {g g' : View} (i1 : ∀ {a : Addr} {o : Obj} {vs : Array Value} {n : Nat}, g a = some o → o.data = .seq vs n → g' a = some o) (i2 : ∀ {a : Addr} {o : Obj} {vs : Array Value}, g a = some o → o.data = .fields vs → g' a = some o) : (∀ {v : Value} {d : D}, Rep g v d → Rep g' v d) ∧ ∀ {vs : List Value} {ds : List D}, RepL g vs ds → RepL g' vs ds :=
  ⟨fun r => Rep.rec (motive_1 := fun v d _ => Rep g' v d) (motive_2 := fun vs ds _ => RepL g' vs ds) .none .bool .int .str .bytes (fun h c e _ ih => .list (i1 h e) c e ih) (fun h c e _ ih => .tuple (i1 h e) c e ih) (fun h => .range (i2 h rfl)) .nil (fun _ _ h r => .cons h r) r,
    fun r => RepL.rec (motive_1 := fun v d _ => Rep g' v d) (motive_2 := fun vs ds _ => RepL g' vs ds) .none .bool .int .str .bytes (fun h c e _ ih => .list (i1 h e) c e ih) (fun h c e _ ih => .tuple (i1 h e) c e ih) (fun h => .range (i2 h rfl)) .nil (fun _ _ h r => .cons h r) r⟩
theorem rep_mono {g g' : View} (hk : ∀ b o, isDat o = true → g b = some o → g' b = some o) : (∀ {v : Value} {d : D}, Rep g v d → Rep g' v d) ∧ ∀ {vs : List Value} {ds : List D}, RepL g vs ds → RepL g' vs ds :=
  rep_lift (fun h e => hk _ _ (by rw [isDat, e]) h) fun h e => hk _ _ (by rw [isDat, e]) h
theorem Rep.mono {g g' : View} (hk : ∀ b o, isDat o = true → g b = some o → g' b = some o) {v : Value} {d : D} (r : Rep g v d) : Rep g' v d := (rep_mono hk).1 r
theorem RepL.mono {g g' : View} (hk : ∀ b o, isDat o = true → g b = some o → g' b = some o) {vs : List Value} {ds : List D} (r : RepL g vs ds) : RepL g' vs ds := (rep_mono hk).2 r

section
variable {g : View} {v : Value} {C : Value → Prop}
@[elab_as_elim] theorem Rep.intE {a : Int} (r : Rep g v (.int a)) (h : ∀ t, C (.int a t)) : C v := by cases r; exact h _
@[elab_as_elim] theorem Rep.strE {a : Str} (r : Rep g v (.str a)) (h : ∀ t, C (.str a t)) : C v := by cases r; exact h _
@[elab_as_elim] theorem Rep.boolE {a : Bool} (r : Rep g v (.bool a)) (h : C (.bool a)) : C v := by cases r; exact h
@[elab_as_elim] theorem Rep.bytesE {a : Array UInt8} (r : Rep g v (.bytes a)) (h : ∀ t, C (.bytes a t)) : C v := by cases r; exact h _
@[elab_as_elim] theorem Rep.listE {ds : List D} (r : Rep g v (.list ds)) (h : ∀ a o vs n, g a = some o → o.cls = .type "list" → o.data = .seq (List.toArray vs) n → RepL g vs ds → C (.ref a)) : C v := by cases r; exact h _ _ _ _ ‹_› ‹_› ‹_› ‹_›
@[elab_as_elim] theorem Rep.tupleE {ds : List D} (r : Rep g v (.tuple ds)) (h : ∀ a o vs n, g a = some o → o.cls = .type "tuple" → o.data = .seq (List.toArray vs) n → RepL g vs ds → C (.ref a)) : C v := by cases r; exact h _ _ _ _ ‹_› ‹_› ‹_› ‹_›
@[elab_as_elim] theorem Rep.rangeE {a b c : Int} (r : Rep g v (.range a b c)) (h : ∀ r t u w, g r = some { cls := .type "range", dict := Option.none, data := .fields #[.int a t, .int b u, .int c w], slots := #[] } → C (.ref r)) : C v := by cases r; exact h _ _ _ _ ‹_›
theorem Rep.int_ {a : Int} (r : Rep g v (.int a)) : ∃ t, v = .int a t := by cases r; exact ⟨_, rfl⟩
end
@[elab_as_elim] theorem RepL.consE {g : View} {C : List Value → Prop} {vs : List Value} {d : D} {ds : List D} (r : RepL g vs (d :: ds)) (h : ∀ v vs, Rep g v d → RepL g vs ds → C (v :: vs)) : C vs := by cases r; exact h _ _ ‹_› ‹_›
@[elab_as_elim] theorem RepL.nilE {g : View} {C : List Value → Prop} {vs : List Value} (r : RepL g vs []) (h : C []) : C vs := by cases r; exact h

theorem RepL.length {g : View} {vs : List Value} {ds : List D} (r : RepL g vs ds) : vs.length = ds.length := by
  induction ds generalizing vs with
  | nil => exact RepL.nilE r rfl
  | cons d ds ih => exact RepL.consE r fun v vs _ r => congrArg (· + 1) (ih r)
theorem RepL.append {g : View} {ws : List Value} {es : List D} (k : RepL g ws es) {vs : List Value} {ds : List D} (r : RepL g vs ds) : RepL g (vs ++ ws) (ds ++ es) := by
  induction ds generalizing vs with
  | nil => exact RepL.nilE r k
  | cons d ds ih => exact RepL.consE r fun v vs h r => .cons h (ih r)
theorem RepL.get {g : View} {vs : List Value} {ds : List D} (r : RepL g vs ds) {i : Nat} {d : D} (h : ds[i]? = some d) : ∃ v, vs[i]? = some v ∧ Rep g v d := by
  induction ds generalizing vs i with
  | nil => cases h
  | cons e ds ih =>
    refine RepL.consE r fun v vs a r => ?_
    cases i with
    | zero => cases h; exact ⟨v, rfl, a⟩
    | succ i => exact ih r h
theorem RepL.get' {g : View} {vs : List Value} {ds : List D} (r : RepL g vs ds) {i : Nat} {v : Value} (h : vs[i]? = some v) : ∃ d, ds[i]? = some d ∧ Rep g v d := by
  induction ds generalizing vs i with
  | nil => refine RepL.nilE (C := fun vs => vs[i]? = some v → _) r (fun h => ?_) h; cases h
  | cons e ds ih =>
    refine RepL.consE (C := fun vs => vs[i]? = some v → _) r (fun w vs a r h => ?_) h
    cases i with
    | zero => cases h; exact ⟨e, rfl, a⟩
    | succ i => exact ih r h
theorem RepL.take {g : View} (k : Nat) : ∀ {vs : List Value} {ds : List D}, RepL g vs ds → RepL g (vs.take k) (ds.take k) := by
  induction k with
  | zero => intro vs ds _; simp; exact .nil
  | succ k ih => intro vs ds h; cases h with
    | nil => simp; exact .nil
    | cons h r => simp; exact .cons h (ih r)
theorem RepL.drop {g : View} (k : Nat) : ∀ {vs : List Value} {ds : List D}, RepL g vs ds → RepL g (vs.drop k) (ds.drop k) := by
  induction k with
  | zero => intro vs ds h; simpa using h
  | succ k ih => intro vs ds h; cases h with
    | nil => simp; exact .nil
    | cons h r => simpa using ih r
theorem RepL.reverse {g : View} {vs : List Value} {ds : List D} (r : RepL g vs ds) : RepL g vs.reverse ds.reverse := by
  induction ds generalizing vs with
  | nil => exact RepL.nilE r .nil
  | cons d ds ih =>
    refine RepL.consE r fun v vs h r => ?_
    rw [List.reverse_cons, List.reverse_cons]
    exact RepL.append (.cons h .nil) (ih r)
theorem RepL.snoc {g : View} {vs : List Value} {ds : List D} {v : Value} {d : D} (r : RepL g vs ds) (h : Rep g v d) : RepL g (vs ++ [v]) (ds ++ [d]) := RepL.append (.cons h .nil) r

/-- what is seen of a heap -/
noncomputable def vis (h : Heap) (hid : Addr → Bool) : View := fun b => if hid b then none else h.get? b
theorem vis_get {h : Heap} {hid : Addr → Bool} {b : Addr} {o : Obj} (e : vis h hid b = some o) : h.get? b = some o ∧ hid b = false := by
  unfold vis at e
  cases hb : hid b with
  | true => simp [hb] at e
  | false => exact ⟨by simpa [hb] using e, rfl⟩
theorem vis_of {h : Heap} {hid : Addr → Bool} {b : Addr} {o : Obj} (e : h.get? b = some o) (hb : hid b = false) : vis h hid b = some o := by simp [vis, hb, e]

/-- all but P is kept -/
noncomputable def Kp (P : Addr) (h h' : Heap) : Prop := ∀ b o, b ≠ P → h.get? b = some o → h'.get? b = some o
theorem Kp.refl {P : Addr} {h : Heap} : Kp P h h := fun _ _ _ e => e
theorem Kp.trans {P : Addr} {h h' h'' : Heap} (a : Kp P h h') (b : Kp P h' h'') : Kp P h h'' := fun x o n e => b x o n (a x o n e)
theorem Kp.of {P : Addr} {h h' : Heap} (k : ∀ b o, h.get? b = some o → h'.get? b = some o) : Kp P h h' := fun b o _ e => k b o e

structure Sys where
  prog : Program
  w : World
  P : Addr
  G : Heap → Prop
  mg : Str → Option Value
  mb : Str → Option Value
  cA : List Addr
  base : Heap

/-- no record of a code object -/
noncomputable def notCode (o : Obj) : Prop := ∀ vs q t, o.data = .fields vs → vs[1]? ≠ some (.str q t)

/-- what a built-in name stands for -/
noncomputable def biVal (f : Str) : Option Value :=
  if f = Str.ofString "len" then some (.builtin "len")
  else if f = Str.ofString "range" then some (.type "range")
  else if f = Str.ofString "list" then some (.type "list")
  else if f = Str.ofString "bytes" then some (.type "bytes")
  else if f = Str.ofString "bool" then some (.type "bool")
  else if f = Str.ofString "isinstance" then some (.builtin "isinstance")
  else if f = Str.ofString "enumerate" then some (.type "enumerate")
  else if f = Str.ofString "ValueError" then some (.type "ValueError")
  else none

structure SysOk (Y : Sys) : Prop where
  bi : ∀ f v, biVal f = some v → Y.mg f = none ∧ Y.mb f = some v
  tab : ∀ h, Y.G h → ∃ ps, h.get? Y.P = some (tabObj ps)
  mono : ∀ h h', Y.G h → (∀ b o, h.get? b = some o → h'.get? b = some o) → Y.G h'
  chg : ∀ h h' (as : List Addr), Y.G h → (∀ a ∈ as, Y.base.get? a = none ∧ a ≠ Y.P ∧ ∀ o, h.get? a = some o → notCode o) → (∀ b o, b ∉ as → h.get? b = some o → h'.get? b = some o) → Y.G h'
  fresh : ∀ h a, Y.G h → h.get? a = none → Y.base.get? a = none
  glob : ∀ h, Y.G h → h.Ns mainGlobals Y.mg
  bui : ∀ h, Y.G h → h.Ns builtinsNs Y.mb
  nolim : ∀ h, Y.G h → h.NoLimit
  live : ∀ h, Y.G h → ∀ b ∈ Y.cA, ∃ o, h.get? b = some o

/-- what may be hidden -/
structure HidOk (Y : Sys) (hid : Addr → Bool) (h : Heap) : Prop where
  p : hid Y.P = true
  live : ∀ b, hid b = true → ∃ o, h.get? b = some o
  cst : ∀ b ∈ Y.cA, hid b = false
theorem HidOk.up {Y : Sys} {hid : Addr → Bool} {h h' : Heap} (H : HidOk Y hid h) (k : Kp Y.P h h') (hp : ∃ o, h'.get? Y.P = some o) : HidOk Y hid h' :=
  ⟨H.p, fun b hb => by
    by_cases e : b = Y.P
    · subst e; exact hp
    · obtain ⟨o, ho⟩ := H.live b hb; exact ⟨o, k b o e ho⟩, H.cst⟩
theorem HidOk.fresh {Y : Sys} {hid : Addr → Bool} {h : Heap} (H : HidOk Y hid h) {b : Addr} (e : h.get? b = none) : hid b = false := by
  cases q : hid b with
  | false => rfl
  | true => obtain ⟨o, ho⟩ := H.live b q; rw [e] at ho; cases ho
theorem get_size (h : Heap) : h.get? h.objs.size = none := by
  cases q : h.get? h.objs.size with
  | none => rfl
  | some o => exact absurd (Heap.lt_size q) (Nat.lt_irrefl _)

theorem Rep.up {P : Addr} {hid : Addr → Bool} {h h' : Heap} (hp : hid P = true) (k : Kp P h h') {v : Value} {d : D} (r : Rep (vis h hid) v d) : Rep (vis h' hid) v d :=
  r.mono fun b o _ e => by
    obtain ⟨e1, e2⟩ := vis_get e
    exact vis_of (k b o (by rintro rfl; rw [hp] at e2; cases e2) e1) e2
theorem RepL.up {P : Addr} {hid : Addr → Bool} {h h' : Heap} (hp : hid P = true) (k : Kp P h h') {vs : List Value} {ds : List D} (r : RepL (vis h hid) vs ds) : RepL (vis h' hid) vs ds :=
  r.mono fun b o _ e => by
    obtain ⟨e1, e2⟩ := vis_get e
    exact vis_of (k b o (by rintro rfl; rw [hp] at e2; cases e2) e1) e2

/-- a later state of the same run -/
noncomputable def Up (Y : Sys) (s s' : Shared) : Prop := ∃ h' tk, s' = { s with heap := h', toks := tk } ∧ Kp Y.P s.heap h' ∧ Y.G h'
theorem Up.refl {Y : Sys} {s : Shared} (g : Y.G s.heap) : Up Y s s := ⟨s.heap, s.toks, rfl, Kp.refl, g⟩
theorem Up.trans {Y : Sys} {s s' s'' : Shared} (a : Up Y s s') (b : Up Y s' s'') : Up Y s s'' := by
  obtain ⟨h', tk, rfl, k, _⟩ := a
  obtain ⟨h'', tk', rfl, k', g⟩ := b
  exact ⟨h'', tk', rfl, k.trans k', g⟩
theorem Up.kp {Y : Sys} {s s' : Shared} (a : Up Y s s') : Kp Y.P s.heap s'.heap := by obtain ⟨h', tk, rfl, k, _⟩ := a; exact k
theorem Up.g {Y : Sys} {s s' : Shared} (a : Up Y s s') : Y.G s'.heap := by obtain ⟨h', tk, rfl, k, g⟩ := a; exact g
theorem Up.toks {Y : Sys} {s : Shared} (g : Y.G s.heap) (n : Nat) : Up Y s { s with toks := n } := ⟨s.heap, n, rfl, Kp.refl, g⟩
theorem Up.ext {Y : Sys} (O : SysOk Y) {s : Shared} {h' : Heap} {n : Nat} (g : Y.G s.heap) (k : ∀ b o, s.heap.get? b = some o → h'.get? b = some o) : Up Y s { s with heap := h', toks := n } :=
  ⟨h', n, rfl, .of k, O.mono _ _ g k⟩
theorem HidOk.ups {Y : Sys} (O : SysOk Y) {hid : Addr → Bool} {s s' : Shared} (H : HidOk Y hid s.heap) (u : Up Y s s') : HidOk Y hid s'.heap :=
  H.up u.kp (let ⟨_, h⟩ := O.tab _ u.g; ⟨_, h⟩)

/-- the end of an evaluation -/
noncomputable def Post (Y : Sys) (hid : Addr → Bool) (s : Shared) (Q : D → Prop) (v : Value) (s' : Shared) : Prop :=
  Up Y s s' ∧ ∃ d, Rep (vis s'.heap hid) v d ∧ Q d
theorem Post.up {Y : Sys} {hid : Addr → Bool} {s s' s'' : Shared} {Q : D → Prop} {v : Value} (u : Up Y s s') (p : Post Y hid s' Q v s'') : Post Y hid s Q v s'' := ⟨u.trans p.1, p.2⟩

/-- room for n frames -/
structure Room (n : Nat) (A : Around) : Prop where
  h : A.handled = none
  d : A.depth + n < recursionLimit
  u : A.units + 100 * n + 100 < cLine
theorem Room.down {n : Nat} {A : Around} (r : Room (n + 1) A) : Room n A := ⟨r.h, by have := r.d; (first | lia | omega), by have := r.u; (first | lia | omega)⟩
theorem Room.le {n m : Nat} {A : Around} (r : Room n A) (h : m ≤ n) : Room m A := ⟨r.h, by have := r.d; (first | lia | omega), by have := r.u; (first | lia | omega)⟩
theorem Room.deeper {n : Nat} {A : Around} (r : Room (n + 1) A) (env : Env) : Room n (A.deeper env) :=
  ⟨r.h, by have := r.d; show A.depth + 1 + n < _; (first | lia | omega), by have := r.u; show A.units + 3 + 100 * n + 100 < _; (first | lia | omega)⟩

noncomputable abbrev Spec := List D → (D → Prop) → Prop

/-- a contract of a def that changes nothing -/
noncomputable def FnOk (Y : Sys) (n : Nat) (a : Addr) (S : Spec) : Prop :=
  ∀ (A : Around) (s : Shared) (hid : Addr → Bool) (args : List Value) (ds : List D) (Q : D → Prop) (E : Value → Shared → Prop),
    Room n A → Y.G s.heap → HidOk Y hid s.heap → RepL (vis s.heap hid) args ds → S ds Q → wpAny (model Y.prog Y.w) A (call (.ref a) args) (Post Y hid s Q) E s

theorem FnOk.le {Y : Sys} {n m : Nat} {a : Addr} {S : Spec} (F : FnOk Y n a S) (h : n ≤ m) : FnOk Y m a S := fun A s hid args ds Q E R => F A s hid args ds Q E (R.le h)

end Mine
end
section
set_option tactic.hygienic false
open PySem PySem.W PySem.Calls PyProof.Rows
namespace Mine

/-- the table: contracts of global defs, global data, formats -/
structure Tab where
  F : Str → Option Spec
  C : Str → Option D
  M : Str → List D → Option Str

noncomputable def imm : D → Bool
  | .none => true
  | .bool _ => true
  | .int _ => true
  | .str _ => true
  | .bytes _ => true
  | .list _ => false
  | .tuple _ => false
  | .range _ _ _ => false

noncomputable def smAll (f : D → D → Bool) : List D → List D → Bool
  | x :: xs, y :: ys => f x y && smAll f xs ys
  | _, _ => true
/-- alike enough to be compared -/
noncomputable def sm : Nat → D → D → Bool
  | 0, _, _ => false
  | _ + 1, .int _, .int _ => true
  | _ + 1, .str _, .str _ => true
  | _ + 1, .bytes _, .bytes _ => true
  | n + 1, .list xs, .list ys => smAll (sm n) xs ys
  | n + 1, .tuple xs, .tuple ys => smAll (sm n) xs ys
  | _ + 1, _, _ => false

inductive TruthP (Q : Bool → Prop) : D → Prop
  | bool (b : Bool) : Q b → TruthP Q (.bool b)
  | list (xs : List D) : xs.length ≤ sizeLine → Q (!xs.isEmpty) → TruthP Q (.list xs)
noncomputable def truthP (d : D) (Q : Bool → Prop) : Prop := TruthP Q d

noncomputable def Sm (a : Int) : Prop := -(2 ^ 63) < a ∧ a < 2 ^ 63

noncomputable def b2n : Bool → Int
  | true => 1
  | false => 0

inductive BinP (T : Tab) (Q : D → Prop) : Operator → D → D → Prop
  | addI (a b : Int) : Q (.int (a + b)) → BinP T Q .Add (.int a) (.int b)
  | subI (a b : Int) : Q (.int (a - b)) → BinP T Q .Sub (.int a) (.int b)
  | subB (a b : Bool) : Q (.int (b2n a - b2n b)) → BinP T Q .Sub (.bool a) (.bool b)
  | mul (a b : Int) : (Sm a ∨ Sm b) → Q (.int (a * b)) → BinP T Q .Mult (.int a) (.int b)
  | div (a b : Int) : (0 < b ∧ b < 2 ^ 63) → Q (.int (Int.fdiv a b)) → BinP T Q .FloorDiv (.int a) (.int b)
  | mod (a b : Int) : b ≠ 0 → Q (.int (Int.fmod a b)) → BinP T Q .Mod (.int a) (.int b)
  | pow (a b : Int) : (0 ≤ b ∧ (Builtin.Int.intBits a : Int) * b ≤ 2 ^ 27) → Q (.int (a ^ b.toNat)) → BinP T Q .Pow (.int a) (.int b)
  | and (a b : Int) : Q (.int (Builtin.bitAnd a b)) → BinP T Q .BitAnd (.int a) (.int b)
  | xor (a b : Int) : Q (.int (Builtin.bitXor a b)) → BinP T Q .BitXor (.int a) (.int b)
  | addS (x y : Str) : x.length + y.length ≤ sizeLine → Q (.str (x ++ y)) → BinP T Q .Add (.str x) (.str y)
  | addL (xs ys : List D) : xs.length + ys.length ≤ sizeLine → Q (.list (xs ++ ys)) → BinP T Q .Add (.list xs) (.list ys)
  | fmt (f : Str) (ds : List D) (x : Str) : T.M f ds = some x → Q (.str x) → BinP T Q .Mod (.str f) (.tuple ds)
noncomputable def binP (T : Tab) (op : Operator) (a b : D) (Q : D → Prop) : Prop := BinP T Q op a b

open Classical in
inductive CmpP (Q : Bool → Prop) : CmpOp → D → D → Prop
  | eqI (a b : Int) : Q (a == b) → CmpP Q .Eq (.int a) (.int b)
  | eqS (a b : Str) : Q (a == b) → CmpP Q .Eq (.str a) (.str b)
  | eqL (a b : List D) : sm 8 (.list a) (.list b) = true → Q (decide (a = b)) → CmpP Q .Eq (.list a) (.list b)
  | eqT (a b : List D) : sm 8 (.tuple a) (.tuple b) = true → Q (decide (a = b)) → CmpP Q .Eq (.tuple a) (.tuple b)
  | neI (a b : Int) : Q (!(a == b)) → CmpP Q .NotEq (.int a) (.int b)
  | neL (a b : List D) : sm 8 (.list a) (.list b) = true → Q (!decide (a = b)) → CmpP Q .NotEq (.list a) (.list b)
  | ltI (a b : Int) : Q (decide (a < b)) → CmpP Q .Lt (.int a) (.int b)
  | gtI (a b : Int) : Q (decide (b < a)) → CmpP Q .Gt (.int a) (.int b)
  | ltS (x y : Str) : Q (decide (x.cps.toList < y.cps.toList)) → CmpP Q .Lt (.str x) (.str y)
  | gtS (x y : Str) : Q (decide (y.cps.toList < x.cps.toList)) → CmpP Q .Gt (.str x) (.str y)
  | notIn (x : D) (xs : List D) : (xs.all fun y => sm 8 y x) = true → Q (!decide (x ∈ xs)) → CmpP Q .NotIn x (.list xs)
noncomputable def cmpP (op : CmpOp) (a b : D) (Q : Bool → Prop) : Prop := CmpP Q op a b

noncomputable def strAt (x : Str) (i : Nat) : Str := ⟨#[x.cps.getD i 0]⟩

inductive GetP (Q : D → Prop) : D → D → Prop
  | list (xs : List D) (i : Int) (j : Nat) (d : D) : (-(2 ^ 63) ≤ i ∧ i < 2 ^ 63) → seqIndex? i xs.length = some j → xs[j]? = some d → Q d → GetP Q (.list xs) (.int i)
  | tuple (xs : List D) (i : Int) (j : Nat) (d : D) : (-(2 ^ 63) ≤ i ∧ i < 2 ^ 63) → seqIndex? i xs.length = some j → xs[j]? = some d → Q d → GetP Q (.tuple xs) (.int i)
  | str (x : Str) (i : Int) : (0 ≤ i ∧ i < x.length ∧ i < 2 ^ 63) → Q (.str (strAt x i.toNat)) → GetP Q (.str x) (.int i)
  | bytes (b : Array UInt8) (i : Int) (c : UInt8) : (0 ≤ i ∧ b.size ≤ sizeLine) → b.toList[i.toNat]? = some c → Q (.int c.toNat) → GetP Q (.bytes b) (.int i)
noncomputable def getP (a b : D) (Q : D → Prop) : Prop := GetP Q a b

/-- slices -/
noncomputable def partD : Option D → Option (Option Int)
  | none => some none
  | some (.int i) => some (some i)
  | _ => none
noncomputable def cutL {α : Type} (lo hi : Option Int) (xs : List α) : List α :=
  (xs.drop (lo.elim 0 (clipAt xs.length))).take (hi.elim xs.length (clipAt xs.length) - lo.elim 0 (clipAt xs.length))
inductive SliceP (lo hi : Option Int) (Q : D → Prop) : D → Option D → Prop
  | list (xs : List D) : xs.length ≤ sizeLine → Q (.list (cutL lo hi xs)) → SliceP lo hi Q (.list xs) none
  | rev (xs : List D) (i : Int) : (xs.length ≤ sizeLine ∧ i = -1 ∧ lo = none ∧ hi = none) → Q (.list xs.reverse) → SliceP lo hi Q (.list xs) (some (.int i))
  | str (x : Str) : x.length ≤ sizeLine → Q (.str ⟨(cutL lo hi x.cps.toList).toArray⟩) → SliceP lo hi Q (.str x) none
  | bytes (b : Array UInt8) : b.size ≤ sizeLine → Q (.bytes (cutL lo hi b.toList).toArray) → SliceP lo hi Q (.bytes b) none
noncomputable def sliceP (d : D) (lo hi st : Option D) (Q : D → Prop) : Prop := ∃ lo' hi', partD lo = some lo' ∧ partD hi = some hi' ∧ SliceP lo' hi' Q d st

/-- the ints of a range -/
noncomputable def rangeL (a b c : Int) : List D :=
  if c = 0 then [] else (List.range (Builtin.Range.rangeSize a b c).toNat).map fun (i : Nat) => D.int (a + i * c)

noncomputable def iterD : D → Option (List D)
  | .list xs => some xs
  | .tuple xs => some xs
  | .bytes b => some (b.toList.map fun c => D.int c.toNat)
  | .range a b c => if Builtin.Range.small a b c = true ∧ c ≠ 0 then some (rangeL a b c) else none
  | _ => none

noncomputable def constD : Expr → Option D
  | .Constant (.int i) _ _ => some (.int i)
  | .Constant (.str x) _ _ => some (.str x)
  | .Constant (.bool b) _ _ => some (.bool b)
  | .UnaryOp .USub (.Constant (.int i) _ _) _ => some (.int (-i))
  | _ => none

noncomputable def mergeD (b : Bool) : D → D → D
  | .int x, .int y => .int (bif b then x else y)
  | .str x, .str y => .str (bif b then x else y)
  | x, y => bif b then x else y

noncomputable def okBase (e : Expr) : Bool := Nat.beq e.ctorIdx 19 || Nat.beq e.ctorIdx 21
noncomputable def okArg (e : Expr) : Bool := !Nat.beq e.ctorIdx 22

noncomputable def wpEs (ev : Expr → (D → Prop) → Prop) : List Expr → (List D → Prop) → Prop
  | [], Q => Q []
  | e :: r, Q => okArg e = true ∧ ev e fun d => wpEs ev r fun ds => Q (d :: ds)

noncomputable def wpOpt (ev : Expr → (D → Prop) → Prop) : Option Expr → (Option D → Prop) → Prop
  | none, Q => Q none
  | some e, Q => ev e fun d => Q (some d)

/-- a test -/
noncomputable def plainT (e : Expr) : Bool := !(Nat.beq e.ctorIdx 3 || Nat.beq e.ctorIdx 0 || Nat.beq e.ctorIdx 5 || Nat.beq e.ctorIdx 15)
inductive TP (ev : Expr → (D → Prop) → Prop) (w : Expr → (Bool → Prop) → Prop) (Q : Bool → Prop) : Expr → Prop
  | not (x : Expr) (p : Pos) : (w x fun b => Q (!b)) → TP ev w Q (.UnaryOp .Not x p)
  | or (x y : Expr) (p : Pos) : (w x fun b => bif b then Q true else w y Q) → TP ev w Q (.BoolOp .Or [x, y] p)
  | cmp (l : Expr) (op : CmpOp) (r : Expr) (p : Pos) : behindInMarks op r = false → (ev l fun a => ev r fun b => cmpP op a b Q) → TP ev w Q (.Compare l [op] [r] p)
  | val (e : Expr) : plainT e = true → (ev e fun d => truthP d Q) → TP ev w Q e
noncomputable def wpT (ev : Expr → (D → Prop) → Prop) : Nat → Expr → (Bool → Prop) → Prop
  | 0, _, _ => False
  | n + 1, e, Q => TP ev (wpT ev n) Q e

noncomputable def intsOf? : List D → Option (List Int)
  | [] => some []
  | .int i :: r => (intsOf? r).map fun ns => i :: ns
  | _ => none

noncomputable def lenD : D → Option Nat
  | .str x => some x.length
  | .list xs => some xs.length
  | .tuple xs => some xs.length
  | .bytes b => some b.size
  | _ => none

/-- calls of built-in names -/
inductive BiP (Q : D → Prop) : Str → List D → Prop
  | len (d : D) (n : Nat) : lenD d = some n → n ≤ sizeLine → Q (.int n) → BiP Q (Str.ofString "len") [d]
  | range1 (b : Int) : Sm b → Q (.range 0 b 1) → BiP Q (Str.ofString "range") [.int b]
  | range3 (a b c : Int) : (Sm a ∧ Sm b ∧ Sm c ∧ c ≠ 0) → Q (.range a b c) → BiP Q (Str.ofString "range") [.int a, .int b, .int c]
  | list (a b c : Int) (xs : List D) : iterD (.range a b c) = some xs → xs.length ≤ sizeLine → Q (.list xs) → BiP Q (Str.ofString "list") [.range a b c]
  | bytes (xs : List D) (ns : List Int) : xs.length ≤ sizeLine → intsOf? xs = some ns → (∀ n ∈ ns, 0 ≤ n ∧ n < 256) → Q (.bytes (byteArr ns)) → BiP Q (Str.ofString "bytes") [.list xs]
noncomputable def biP (f : Str) (ds : List D) (Q : D → Prop) : Prop := BiP Q f ds

noncomputable def globalKind (sc : Scope) (f : Str) : Bool := sc.names.lookup f == some .globalImplicit

noncomputable def strsOf? : List D → Option (List Str)
  | [] => some []
  | .str x :: r => (strsOf? r).map fun xs => x :: xs
  | _ => none
/-- methods of texts -/
inductive MethP (Q : D → Prop) : Str → D → List D → Prop
  | join (x : Str) (xs : List D) (ys : List Str) : strsOf? xs = some ys → JoinOk x ys = true → Q (.str (Txt.join x ys)) → MethP Q (Str.ofString "join") (.str x) [.list xs]
  | index (x y : Str) : 0 ≤ Txt.find x y → Q (.int (Txt.find x y)) → MethP Q (Str.ofString "index") (.str x) [.str y]
noncomputable def methP (m : Str) (d : D) (ds : List D) (Q : D → Prop) : Prop := MethP Q m d ds

noncomputable def isStr : D → Bool
  | .str _ => true
  | _ => false
noncomputable def methId (m : Str) : Option String := if m = Str.ofString "join" then some "str.join" else if m = Str.ofString "index" then some "str.index" else none

/-- isinstance, as it is met here -/
inductive IsiP (Q : D → Prop) : Str → D → Prop
  | bytes (b : Array UInt8) : Q (.bool true) → IsiP Q (Str.ofString "bytes") (.bytes b)
  | int (i : Int) : Q (.bool false) → IsiP Q (Str.ofString "bool") (.int i)
noncomputable def isiP (t : Str) (d : D) (Q : D → Prop) : Prop := IsiP Q t d

noncomputable def okSet (e : Expr) : Bool := !Nat.beq e.ctorIdx 7

noncomputable def relabelS (scope sc : Scope) : Scope :=
  { scope with names := scope.names.map fun (n, k) => if (k == .free && sc.kind == .function && sc.names.lookup n == some .cell) then (n, .cell) else (n, k) }

/-- names that a comprehension sees of its function's -/
noncomputable def capt (scope : Scope) (ρ : List (Str × D)) : List (Str × D) := ρ.filter fun p => scope.names.lookup p.1 == some .free

noncomputable def setV (y : Str) (d : D) (ρ : List (Str × D)) : List (Str × D) := (y, d) :: ρ.filter fun p => !(p.1 == y)

noncomputable def testsP (tv : Expr → (Bool → Prop) → Prop) : List Expr → (Bool → Prop) → Prop
  | [], Q => Q true
  | [c], Q => tv c Q
  | _, _ => False

noncomputable def comp1 (x : Str) (ifs : List Expr) (elt : Expr) (ev : List (Str × D) → Expr → (D → Prop) → Prop) (tv : List (Str × D) → Expr → (Bool → Prop) → Prop) : List D → List (Str × D) → List D → (List (Str × D) → List D → Prop) → Prop
  | [], ρ, acc, Q => Q ρ acc
  | d :: r, ρ, acc, Q => testsP (tv (setV x d ρ)) ifs fun b => bif b then ev (setV x d ρ) elt fun v => comp1 x ifs elt ev tv r (setV x d ρ) (acc ++ [v]) Q else comp1 x ifs elt ev tv r (setV x d ρ) acc Q

noncomputable def comp2 (x y : Str) (iter2 elt : Expr) (ev : List (Str × D) → Expr → (D → Prop) → Prop) (tv : List (Str × D) → Expr → (Bool → Prop) → Prop) : List D → List (Str × D) → List D → (List D → Prop) → Prop
  | [], _, acc, Q => Q acc
  | d :: r, ρ, acc, Q => ev (setV x d ρ) iter2 fun v => (iterD v).elim False fun items => acc.length + items.length ≤ sizeLine ∧ comp1 y [] elt ev tv items (setV x d ρ) acc fun ρ' acc' => comp2 x y iter2 elt ev tv r ρ' acc' Q

/-- the scope of a comprehension as it is met here -/
noncomputable def compOk (scope sc : Scope) (xs : List Str) : Bool :=
  scope.kind == .function && scope.names.all (fun p => p.2 != .cell) &&
  scope.names.all (fun p => p.2 != .local || scope.names.lookup p.1 == some .local) &&
  xs.all (fun x => scope.names.lookup x == some .local && !(x == ("__debug__" : Str))) &&
  scope.names.all (fun p => p.2 != .free || sc.names.lookup p.1 == some .cell)

inductive EP (T : Tab) (w : Scope → List (Str × D) → Expr → (D → Prop) → Prop) (n : Nat) (sc : Scope) (ρ : List (Str × D)) (Q : D → Prop) : Expr → Prop
  | int (i : Int) (k : Nat) (p : Pos) : Q (.int i) → EP T w n sc ρ Q (.Constant (.int i) k p)
  | str (x : Str) (k : Nat) (p : Pos) : Q (.str x) → EP T w n sc ρ Q (.Constant (.str x) k p)
  | bool (b : Bool) (k : Nat) (p : Pos) : Q (.bool b) → EP T w n sc ρ Q (.Constant (.bool b) k p)
  | name (x : Str) (p : Pos) (d : D) : ρ.lookup x = some d → Q d → EP T w n sc ρ Q (.Name x p)
  | glob (x : Str) (p : Pos) (d : D) : globalKind sc x = true → (x == ("__debug__" : Str)) = false → T.C x = some d → Q d → EP T w n sc ρ Q (.Name x p)
  | bin (l : Expr) (op : Operator) (r : Expr) (p : Pos) : (w sc ρ l fun a => w sc ρ r fun b => binP T op a b Q) → EP T w n sc ρ Q (.BinOp l op r p)
  | neg (i : Int) (k : Nat) (p p' : Pos) : Q (.int (-i)) → EP T w n sc ρ Q (.UnaryOp .USub (.Constant (.int i) k p') p)
  | cmp (l : Expr) (op : CmpOp) (r : Expr) (p : Pos) : behindInMarks op r = false → (w sc ρ l fun a => w sc ρ r fun b => cmpP op a b fun t => Q (.bool t)) → EP T w n sc ρ Q (.Compare l [op] [r] p)
  | and3 (x y z : Expr) (p : Pos) : (w sc ρ x fun a => truthP a fun b => bif b then (w sc ρ y fun a' => truthP a' fun b' => bif b' then w sc ρ z Q else Q a') else Q a) → EP T w n sc ρ Q (.BoolOp .And [x, y, z] p)
  | ife (t b o : Expr) (p : Pos) (x y : D) : constD b = some x → constD o = some y → (wpT (w sc ρ) n t fun c => Q (mergeD c x y)) → EP T w n sc ρ Q (.IfExp t b o p)
  | call (f : Str) (pf : Pos) (args : List Expr) (p : Pos) (S : Spec) : globalKind sc f = true → (f == ("__debug__" : Str)) = false → T.F f = some S → args ≠ [] → args.all okArg = true → (wpEs (w sc ρ) args fun ds => S ds Q) → EP T w n sc ρ Q (.Call (.Name f pf) args [] p)
  | isi (x : Expr) (t : Str) (pf pt p : Pos) : globalKind sc (Str.ofString "isinstance") = true → globalKind sc t = true → (t == ("__debug__" : Str)) = false → okArg x = true → (w sc ρ x fun d => isiP t d Q) → EP T w n sc ρ Q (.Call (.Name (Str.ofString "isinstance") pf) [x, .Name t pt] [] p)
  | bi (f : Str) (pf : Pos) (args : List Expr) (p : Pos) : globalKind sc f = true → (f == ("__debug__" : Str)) = false → args ≠ [] → args.all okArg = true → (biVal f).isSome = true → (wpEs (w sc ρ) args fun ds => biP f ds Q) → EP T w n sc ρ Q (.Call (.Name f pf) args [] p)
  | meth (o : Expr) (m : Str) (ap : Pos) (a : Expr) (p : Pos) : (ap.endLine == p.line) = true → okBase o = true → okArg a = true → (methId m).isSome = true → (w sc ρ o fun d => isStr d = true ∧ w sc ρ a fun b => methP m d [b] Q) → EP T w n sc ρ Q (.Call (.Attribute o m ap) [a] [] p)
  | slice (v : Expr) (lo hi st : Option Expr) (sp p : Pos) : (w sc ρ v fun d => wpOpt (w sc ρ) lo fun a => wpOpt (w sc ρ) hi fun b => wpOpt (w sc ρ) st fun c => sliceP d a b c Q) → EP T w n sc ρ Q (.Subscript v (.Slice lo hi st sp) p)
  | item (v i : Expr) (p : Pos) : (w sc ρ v fun a => w sc ρ i fun b => getP a b Q) → EP T w n sc ρ Q (.Subscript v i p)
  | list (es : List Expr) (p : Pos) : (wpEs (w sc ρ) es fun ds => ds.length ≤ sizeLine ∧ Q (.list ds)) → EP T w n sc ρ Q (.List es p)
  | tuple (es : List Expr) (k : Nat) (p : Pos) : (wpEs (w sc ρ) es fun ds => ds.length ≤ sizeLine ∧ Q (.tuple ds)) → EP T w n sc ρ Q (.Tuple es k p)
  | comp (elt : Expr) (x : Str) (px : Pos) (iter : Expr) (ifs : List Expr) (scope : Scope) (p : Pos) : compOk scope sc [x] = true → okSet iter = true → (w sc ρ iter fun d => (iterD d).elim False fun items => items.length ≤ sizeLine ∧
        comp1 x ifs elt (fun ρ' => w (relabelS scope sc) ρ') (fun ρ' => wpT (w (relabelS scope sc) ρ') n) items (capt scope ρ) [] fun _ ds => Q (.list ds)) → EP T w n sc ρ Q (.ListComp elt [⟨.Name x px, iter, ifs, 0⟩] scope p)
  | comp2 (elt : Expr) (x : Str) (px : Pos) (iter : Expr) (y : Str) (py : Pos) (iter2 : Expr) (scope : Scope) (p : Pos) : compOk scope sc [x, y] = true → okSet iter = true → okSet iter2 = true → (x == y) = false → (w sc ρ iter fun d => (iterD d).elim False fun items =>
        comp2 x y iter2 elt (fun ρ' => w (relabelS scope sc) ρ') (fun ρ' => wpT (w (relabelS scope sc) ρ') n) items (capt scope ρ) [] fun ds => Q (.list ds)) → EP T w n sc ρ Q (.ListComp elt [⟨.Name x px, iter, [], 0⟩, ⟨.Name y py, iter2, [], 0⟩] scope p)
noncomputable def wpE (T : Tab) : Nat → Scope → List (Str × D) → Expr → (D → Prop) → Prop
  | 0 => fun _ _ _ _ => False
  | n + 1 => fun sc ρ e Q => EP T (wpE T n) n sc ρ Q e

end Mine
end
section
set_option tactic.hygienic false
open PySem PySem.W PySem.Calls PyProof.Rows
namespace Mine

theorem sm_bits {a : Int} (h : Sm a) : Builtin.Int.intBits a ≤ 64 := intBits_le_64 (by have := h.1; (first | lia | omega)) (by have := h.2; (first | lia | omega))
theorem mulOk {a b : Int} (h : Sm a ∨ Sm b) : IntMulOk a b := h.elim (fun x => .of_left (sm_bits x)) fun x => .of_right (sm_bits x)
theorem b2n_b2i (b : Bool) : b2n b = b2i b := by cases b <;> rfl
theorem divOk {a b : Int} (h : 0 < b) (h' : b < 2 ^ 63) : Builtin.divisionGoesByPylong a b = false := by
  have hz : (b == 0) = false := by simpa using (by omega : b ≠ 0)
  have hl : b.natAbs.log2 < 63 := (Nat.log2_lt (by omega)).mpr (by omega)
  unfold Builtin.divisionGoesByPylong
  simp only [hz, Bool.false_eq_true, if_false]
  rw [decide_eq_false (by omega), Bool.false_and]

structure TabOk (Y : Sys) (n : Nat) (T : Tab) : Prop where
  fn : ∀ f S, T.F f = some S → ∃ a, Y.mg f = some (.ref a) ∧ FnOk Y n a S ∧ ∀ h, Y.G h → ∃ o fd, h.get? a = some o ∧ o.data = .func fd
  cst : ∀ x d, T.C x = some d → ∃ v, Y.mg x = some v ∧ ∀ h hid, Y.G h → HidOk Y hid h → Rep (vis h hid) v d
  fmt : ∀ f ds x, T.M f ds = some x → ∀ (A : Around) (s : Shared) (hid : Addr → Bool) (t : Tok) (v : Value) (Q : Value → Shared → Prop) (E : Value → Shared → Prop), Room 0 A → Rep (vis s.heap hid) v (.tuple ds) →
    (∀ t' h' tk, (∀ b o, s.heap.get? b = some o → h'.get? b = some o) → Q (.str x t') { s with heap := h', toks := tk }) → wpAny (model Y.prog Y.w) A (binaryOp .Mod (.str f t) v) Q E s

section
variable {Y : Sys} {T : Tab} {n : Nat} {A : Around} {E : Value → Shared → Prop} {s : Shared} {hid : Addr → Bool}

theorem post_same {Q : D → Prop} {v : Value} {d : D} {tk : Nat} (g : Y.G s.heap) (r : ∀ h, Rep h v d) (q : Q d) : Post Y hid s Q v { s with toks := tk } := ⟨Up.toks g tk, d, r _, q⟩
theorem post_here {Q : D → Prop} {v : Value} {d : D} (g : Y.G s.heap) (r : Rep (vis s.heap hid) v d) (q : Q d) : Post Y hid s Q v s := ⟨Up.refl g, d, r, q⟩

theorem rep_new {o : Obj} {h : Heap} (H : HidOk Y hid h) (hf : o.isFreed = false) : vis (h.push o) hid h.objs.size = some o :=
  vis_of (Heap.get?_push_size _ hf) (H.fresh (get_size h))
theorem vis_push {h : Heap} (o : Obj) : ∀ b o', vis h hid b = some o' → vis (h.push o) hid b = some o' := fun b o' e => by
  obtain ⟨e1, e2⟩ := vis_get e
  exact vis_of (Heap.get?_push_of_some _ e1) e2

theorem post_list {Q : D → Prop} {vs : List Value} {ds : List D} {tk : Nat} (O : SysOk Y) (g : Y.G s.heap) (H : HidOk Y hid s.heap) (r : RepL (vis s.heap hid) vs ds) (q : Q (.list ds)) :
    Post Y hid s Q (.ref s.heap.objs.size) { s with heap := s.heap.push { cls := .type "list", data := .seq vs.toArray }, toks := tk } :=
  ⟨Up.ext O g fun _ _ e => Heap.get?_push_of_some _ e, _, .list (rep_new H rfl) rfl rfl (r.mono fun b o _ e => vis_push _ b o e), q⟩
theorem post_tuple {Q : D → Prop} {vs : List Value} {ds : List D} {tk : Nat} (O : SysOk Y) (g : Y.G s.heap) (H : HidOk Y hid s.heap) (r : RepL (vis s.heap hid) vs ds) (q : Q (.tuple ds)) :
    Post Y hid s Q (.ref s.heap.objs.size) { s with heap := s.heap.push { cls := .type "tuple", data := .seq vs.toArray }, toks := tk } :=
  ⟨Up.ext O g fun _ _ e => Heap.get?_push_of_some _ e, _, .tuple (rep_new H rfl) rfl rfl (r.mono fun b o _ e => vis_push _ b o e), q⟩

theorem rep_isList {a : Addr} {o : Obj} {vs : List Value} {k : Nat} (h : vis s.heap hid a = some o) (c : o.cls = .type "list") (e : o.data = .seq vs.toArray k) : s.heap.IsList a vs.toArray := ⟨o, (vis_get h).1, c, k, e⟩
theorem rep_isTuple {a : Addr} {o : Obj} {vs : List Value} {k : Nat} (h : vis s.heap hid a = some o) (c : o.cls = .type "tuple") (e : o.data = .seq vs.toArray k) : s.heap.IsTuple a vs.toArray := ⟨o, (vis_get h).1, c, k, e⟩

theorem add_lists' {l b : Addr} {vs ws : List Value} {Q : Value → Shared → Prop} (hl : s.heap.IsList l vs.toArray) (hb : s.heap.IsList b ws.toArray)
    (h : Q (.ref s.heap.objs.size) { s with heap := s.heap.push { cls := .type "list", data := .seq (vs ++ ws).toArray } }) (hsz : vs.length + ws.length ≤ sizeLine) :
    wpAny (model Y.prog Y.w) A (binaryOp .Add (.ref l) (.ref b)) Q E s := by
  obtain ⟨⟨_, _, _, _⟩, ho, hc, _, hd⟩ := id hl
  obtain ⟨⟨_, _, _, _⟩, ho2, hc2, _, hd2⟩ := id hb
  simp only at hc hd hc2 hd2
  subst hc hd hc2 hd2
  refine concat_meets ⟨_, ho, rfl⟩ ⟨_, ho2, rfl⟩ noFill_list_add seq_list_add PySem.F.slot_list_add PySem.F.entry_list_add (PySem.F.args_list_add_2 _ _) (list_addW l b vs.toArray ws.toArray _ _ _ _ _ _ (by simpa using hsz)) ⟨ho, ho2, ?_⟩
  have e : vs.toArray ++ ws.toArray = (vs ++ ws).toArray := by simp
  rw [e]
  exact h

theorem bin_sound (O : SysOk Y) (TO : TabOk Y n T) {op : Operator} {a b : D} {va vb : Value} {Q : D → Prop} (p : binP T op a b Q) (ra : Rep (vis s.heap hid) va a) (rb : Rep (vis s.heap hid) vb b) (g : Y.G s.heap) (H : HidOk Y hid s.heap) (R : Room 0 A) :
    wpAny (model Y.prog Y.w) A (binaryOp op va vb) (Post Y hid s Q) E s := by
  cases p with
  | addI a b p => exact ra.intE fun _ => rb.intE fun _ => add_int (post_same g (fun _ => .int _ _) p)
  | subI a b p => exact ra.intE fun _ => rb.intE fun _ => sub_int (post_same g (fun _ => .int _ _) p)
  | mul a b q p => exact ra.intE fun _ => rb.intE fun _ => mul_int (post_same g (fun _ => .int _ _) p) (mulOk q)
  | subB a b p => refine ra.boolE (rb.boolE ?_); rw [b2n_b2i, b2n_b2i] at p; exact sub_bool (post_same g (fun _ => .int _ _) p)
  | div a b q p => exact ra.intE fun _ => rb.intE fun _ => floordiv_int (Int.ne_of_gt q.1) (post_same g (fun _ => .int _ _) p) (.inl (divOk q.1 q.2))
  | mod a b q p => exact ra.intE fun _ => rb.intE fun _ => mod_int' q (post_same g (fun _ => .int _ _) p)
  | pow a b q p => exact ra.intE fun _ => rb.intE fun _ => pow_int q.1 q.2 (post_same g (fun _ => .int _ _) p)
  | and a b p => exact ra.intE fun _ => rb.intE fun _ => and_int (post_same g (fun _ => .int _ _) p)
  | xor a b p => exact ra.intE fun _ => rb.intE fun _ => xor_int (post_same g (fun _ => .int _ _) p)
  | addS x y q p => exact ra.strE fun _ => rb.strE fun _ => add_str (fun t' tk => post_same g (fun _ => .str _ _) p) q
  | addL xs ys q p =>
    exact ra.listE fun _ _ _ _ h1 c1 e1 r1 => rb.listE fun _ _ _ _ h2 c2 e2 r2 => add_lists' (rep_isList h1 c1 e1) (rep_isList h2 c2 e2) (post_list O g H (RepL.append r2 r1) p) (by rw [r1.length, r2.length]; exact q)
  | fmt f ds x hx p =>
    exact ra.strE fun t => TO.fmt f ds x hx A s hid t vb _ _ R rb fun t' h' tk k => ⟨Up.ext O g k, _, .str x t', p⟩
end
end Mine
end
section
set_option tactic.hygienic false
open PySem PySem.W PySem.Calls PyProof.Rows
namespace Mine
open PySem.SeqAt

theorem Rep.refE {g : View} {a : Addr} {d : D} {C : D → Prop} (r : Rep g (.ref a) d)
    (hl : ∀ o vs n ds, g a = some o → o.cls = .type "list" → o.data = .seq (List.toArray vs) n → RepL g vs ds → C (.list ds))
    (ht : ∀ o vs n ds, g a = some o → o.cls = .type "tuple" → o.data = .seq (List.toArray vs) n → RepL g vs ds → C (.tuple ds))
    (hr : ∀ x y z t u v, g a = some { cls := .type "range", dict := Option.none, data := .fields #[.int x t, .int y u, .int z v], slots := #[] } → C (.range x y z)) : C d := by
  cases r
  · exact hl _ _ _ _ ‹_› ‹_› ‹_› ‹_›
  · exact ht _ _ _ _ ‹_› ‹_› ‹_› ‹_›
  · exact hr _ _ _ _ _ _ ‹_›
theorem seq_fn {g : View} {a : Addr} {o o' : Obj} {vs ws : List Value} {n m : Nat} (h : g a = some o) (h' : g a = some o') (e : o.data = .seq vs.toArray n) (e' : o'.data = .seq ws.toArray m) : vs = ws := by
  rw [h] at h'
  rw [Option.some.inj h', e'] at e
  have := congrArg Array.toList (Data.seq.inj e).1
  simpa using this.symm
theorem cls_ne {g : View} {a : Addr} {o o' : Obj} {x y : String} (h : g a = some o) (h' : g a = some o') (e : o.cls = .type x) (e' : o'.cls = .type y) : x = y := by
  rw [h] at h'
  rw [Option.some.inj h', e'] at e
  exact (Value.type.inj e).symm
mutual
theorem Rep.fn {g : View} {v : Value} {d : D} (h : Rep g v d) : ∀ {d' : D}, Rep g v d' → d = d' := by
  cases h with
  | none => intro d' r; cases r; rfl
  | bool b => intro d' r; cases r; rfl
  | int i t => intro d' r; cases r; rfl
  | str x t => intro d' r; cases r; rfl
  | bytes b t => intro d' r; cases r; rfl
  | list h c e q =>
    intro d' r
    refine r.refE (fun o vs n ds h' c' e' q' => ?_) (fun o vs n ds h' c' e' q' => ?_) fun x y z t u v h' => ?_
    · have := seq_fn h h' e e'
      subst this
      rw [RepL.fn q q']
    · exact absurd (cls_ne h h' c c') (by decide)
    · exact absurd (cls_ne h h' c rfl) (by decide)
  | tuple h c e q =>
    intro d' r
    refine r.refE (fun o vs n ds h' c' e' q' => ?_) (fun o vs n ds h' c' e' q' => ?_) fun x y z t u v h' => ?_
    · exact absurd (cls_ne h h' c c') (by decide)
    · have := seq_fn h h' e e'
      subst this
      rw [RepL.fn q q']
    · exact absurd (cls_ne h h' c rfl) (by decide)
  | range h =>
    intro d' r
    refine r.refE (fun o vs n ds h' c' e' q' => ?_) (fun o vs n ds h' c' e' q' => ?_) fun x y z t u v h' => ?_
    · exact absurd (cls_ne h' h c' rfl) (by decide)
    · exact absurd (cls_ne h' h c' rfl) (by decide)
    · rw [h] at h'; cases h'; rfl
theorem RepL.fn {g : View} {vs : List Value} {ds : List D} (h : RepL g vs ds) : ∀ {ds' : List D}, RepL g vs ds' → ds = ds' := by
  cases h with
  | nil => intro ds' r; cases r; rfl
  | cons h q =>
    intro ds' r
    cases r with
    | cons h' q' => rw [Rep.fn h h', RepL.fn q q']
end
theorem sm_E {k : Nat} {a b : D} {C : D → D → Prop} (h : sm (k + 1) a b = true) (c1 : ∀ x y, C (.int x) (.int y)) (c2 : ∀ x y, C (.str x) (.str y)) (c3 : ∀ x y, C (.bytes x) (.bytes y))
    (c4 : ∀ xs ys, smAll (sm k) xs ys = true → C (.list xs) (.list ys)) (c5 : ∀ xs ys, smAll (sm k) xs ys = true → C (.tuple xs) (.tuple ys)) : C a b := by
  cases a <;> first
    | exact absurd h Bool.false_ne_true
    | (cases b <;> first | exact absurd h Bool.false_ne_true | exact c1 _ _ | exact c2 _ _ | exact c3 _ _ | exact c4 _ _ h | exact c5 _ _ h)

section
open Classical
variable {A : Around} {s : Shared} {hid : Addr → Bool}

theorem eqAt_bytes (b c : Array UInt8) (t u : Tok) : EqAt A s (.bytes b t) (.bytes c u) (decide (b = c)) := fun prog w E Q h => by
  unfold eqBool
  refine wpAny_holding ?_
  refine wpAny_ite_split (fun hab => ?_) (fun _ => ?_)
  · have := eq_of_beq hab
    injection this with e _
    subst e
    exact wpAny_bind (wpAny_rule (wpAny_pure (by simpa using h)))
  · refine wpAny_bind (show wpAny _ _ (compareOp .Eq (.bytes b t) (.bytes c u)) _ _ _ from eq_bytes (wpAny_truthy_bool ?_))
    have e : (b.toList == c.toList) = decide (b = c) := by
      rw [Bool.eq_iff_iff]
      simp
    rw [e]
    exact h

theorem all_range_zip {xs ys : List D} (hl : xs.length = ys.length) : ((List.range xs.length).all fun j => decide (xs[j]? = ys[j]?)) = decide (xs = ys) := by
  rw [Bool.eq_iff_iff]
  simp only [List.all_eq_true, List.mem_range, decide_eq_true_eq]
  constructor
  · intro h
    apply List.ext_getElem? 
    intro i
    by_cases hi : i < xs.length
    · exact h i hi
    · rw [List.getElem?_eq_none (by (first | lia | omega)), List.getElem?_eq_none (by (first | lia | omega))]
  · rintro rfl i _; rfl

theorem smAll_get {f : D → D → Bool} : ∀ {xs ys : List D}, smAll f xs ys = true → ∀ {i : Nat} {x y : D}, xs[i]? = some x → ys[i]? = some y → f x y = true
  | [], _, _, _, _, _, h, _ => by simp at h
  | _ :: _, [], _, _, _, _, _, h => by simp at h
  | a :: xs, b :: ys, h, 0, x, y, e1, e2 => by
    simp at e1 e2; subst e1 e2
    exact (Bool.and_eq_true_iff.mp h).1
  | a :: xs, b :: ys, h, i + 1, x, y, e1, e2 => smAll_get (Bool.and_eq_true_iff.mp h).2 (by simpa using e1) (by simpa using e2)

theorem rc_lists {k : Nat} (ih : ∀ {A : Around} {va vb : Value} {a b : D}, sm k a b = true → Rep (vis s.heap hid) va a → Rep (vis s.heap hid) vb b → A.units + k < cLine → EqAt A s va vb (decide (a = b)))
    {l b : Addr} {o o' : Obj} {vs ws : List Value} {n n' : Nat} {xs ys : List D} (h : vis s.heap hid l = some o) (c : o.cls = .type "list") (e : o.data = .seq vs.toArray n) (r : RepL (vis s.heap hid) vs xs)
    (h' : vis s.heap hid b = some o') (c' : o'.cls = .type "list") (e' : o'.data = .seq ws.toArray n') (r' : RepL (vis s.heap hid) ws ys) (hs : smAll (sm k) xs ys = true) (hu : A.units + (k + 1) < cLine) :
    RcAt A s (.ref l) (.ref b) (decide (xs = ys)) ∧ RcNeAt A s (.ref l) (.ref b) (!decide (xs = ys)) := by
  by_cases hl : xs.length = ys.length
  · have hz : vs.toArray.size = ws.toArray.size := by simp [r.length, r'.length, hl]
    have he : ∀ j (h1 : j < vs.toArray.size) (h2 : j < ws.toArray.size), EqAt A.in1 s vs.toArray[j] ws.toArray[j] ((fun j => decide (xs[j]? = ys[j]?)) j) := by
      intro j h1 h2
      have g1 : vs[j]? = some vs.toArray[j] := by simp at h1 ⊢
      have g2 : ws[j]? = some ws.toArray[j] := by simp at h2 ⊢
      obtain ⟨x, hx, rx⟩ := r.get' g1
      obtain ⟨y, hy, ry⟩ := r'.get' g2
      have := ih (A := A.in1) (smAll_get hs hx hy) rx ry (by show A.units + 1 + k < cLine; (first | lia | omega))
      simp only [hx, hy, Option.some.injEq]
      exact this
    have q1 := RcAt.lists (e := fun j => decide (xs[j]? = ys[j]?)) (rep_isList h c e) (rep_isList h' c' e') hz (by (first | lia | omega)) he
    have q2 := RcNeAt.lists (e := fun j => decide (xs[j]? = ys[j]?)) (rep_isList h c e) (rep_isList h' c' e') hz (by (first | lia | omega)) he
    have ez : vs.toArray.size = xs.length := by simp [r.length]
    rw [ez, all_range_zip hl] at q1 q2
    exact ⟨q1, q2⟩
  · have hne : xs ≠ ys := fun q => hl (by rw [q])
    have hz : (vs.toArray.size != ws.toArray.size) = true := by simp [r.length, r'.length, hl]
    rw [decide_eq_false hne]
    exact ⟨RcAt.lists_lengths (rep_isList h c e) (rep_isList h' c' e') hz (by (first | lia | omega)), RcNeAt.lists_lengths (rep_isList h c e) (rep_isList h' c' e') hz (by (first | lia | omega))⟩

theorem all_range_min {xs ys : List D} : (((List.range (min xs.length ys.length)).all fun j => decide (xs[j]? = ys[j]?)) && xs.length == ys.length) = decide (xs = ys) := by
  by_cases hl : xs.length = ys.length
  · rw [← all_range_zip hl]
    simp [hl]
  · have hne : xs ≠ ys := fun q => hl (by rw [q])
    rw [decide_eq_false hne]
    simp [hl]

theorem rc_tuples {k : Nat} (ih : ∀ {A : Around} {va vb : Value} {a b : D}, sm k a b = true → Rep (vis s.heap hid) va a → Rep (vis s.heap hid) vb b → A.units + k < cLine → EqAt A s va vb (decide (a = b)))
    {l b : Addr} {o o' : Obj} {vs ws : List Value} {n n' : Nat} {xs ys : List D} (h : vis s.heap hid l = some o) (c : o.cls = .type "tuple") (e : o.data = .seq vs.toArray n) (r : RepL (vis s.heap hid) vs xs)
    (h' : vis s.heap hid b = some o') (c' : o'.cls = .type "tuple") (e' : o'.data = .seq ws.toArray n') (r' : RepL (vis s.heap hid) ws ys) (hs : smAll (sm k) xs ys = true) (hu : A.units + (k + 1) < cLine) :
    RcAt A s (.ref l) (.ref b) (decide (xs = ys)) := by
  have he : ∀ j (h1 : j < vs.toArray.size) (h2 : j < ws.toArray.size), EqAt A.in1 s vs.toArray[j] ws.toArray[j] ((fun j => decide (xs[j]? = ys[j]?)) j) := by
    intro j h1 h2
    have g1 : vs[j]? = some vs.toArray[j] := by simp at h1 ⊢
    have g2 : ws[j]? = some ws.toArray[j] := by simp at h2 ⊢
    obtain ⟨x, hx, rx⟩ := r.get' g1
    obtain ⟨y, hy, ry⟩ := r'.get' g2
    have := ih (A := A.in1) (smAll_get hs hx hy) rx ry (by show A.units + 1 + k < cLine; (first | lia | omega))
    simp only [hx, hy, Option.some.injEq]
    exact this
  have q1 := RcAt.tuples (e := fun j => decide (xs[j]? = ys[j]?)) (rep_isTuple h c e) (rep_isTuple h' c' e') (by (first | lia | omega)) he
  have ez : vs.toArray.size = xs.length := by simp [r.length]
  have ez' : ws.toArray.size = ys.length := by simp [r'.length]
  rw [ez, ez', all_range_min] at q1
  exact q1

theorem eq_at : ∀ (k : Nat) {A : Around} {va vb : Value} {a b : D}, sm k a b = true → Rep (vis s.heap hid) va a → Rep (vis s.heap hid) vb b → A.units + k < cLine → EqAt A s va vb (decide (a = b)) := by
  intro k
  induction k with
  | zero => intro A va vb a b h; cases h
  | succ k ih =>
    intro A va vb a b h ra rb hu
    have de : ∀ {α : Type} {f : α → D} (hf : ∀ x y, f x = f y → x = y) (x y : α) {b : Bool}, (b = true ↔ x = y) → decide (f x = f y) = b := fun hf x y b hb => by
      rw [Bool.eq_iff_iff, decide_eq_true_iff, hb]
      exact ⟨hf x y, fun e => e ▸ rfl⟩
    revert ra rb
    refine sm_E (C := fun a b => Rep (vis s.heap hid) va a → Rep (vis s.heap hid) vb b → EqAt A s va vb (decide (a = b))) h (fun x y ra rb => ?_) (fun x y ra rb => ?_) (fun x y ra rb => ?_) (fun xs ys h' ra rb => ?_) fun xs ys h' ra rb => ?_
    · rw [de (f := D.int) (fun _ _ h => by injection h) x y (b := x == y) beq_iff_eq]
      exact ra.intE fun _ => rb.intE fun _ => EqAt.int_int _ _ _ _
    · rw [de (f := D.str) (fun _ _ h => by injection h) x y (b := x == y) beq_iff_eq]
      exact ra.strE fun _ => rb.strE fun _ => EqAt.str_str _ _ _ _
    · rw [de (f := D.bytes) (fun _ _ h => by injection h) x y decide_eq_true_iff]
      exact ra.bytesE fun _ => rb.bytesE fun _ => eqAt_bytes _ _ _ _
    · by_cases hab : va = vb
      · subst hab
        rw [ra.fn rb, decide_eq_true rfl]
        exact EqAt.same (A := A) (s := s) va
      · rw [de (f := D.list) (fun _ _ h => by injection h) xs ys decide_eq_true_iff]
        revert hab
        exact ra.listE fun _ _ _ _ h1 c1 e1 r1 => rb.listE fun _ _ _ _ h2 c2 e2 r2 hab => EqAt.of_refs (fun q => hab (q ▸ rfl)) (rc_lists ih h1 c1 e1 r1 h2 c2 e2 r2 h' hu).1
    · by_cases hab : va = vb
      · subst hab
        rw [ra.fn rb, decide_eq_true rfl]
        exact EqAt.same (A := A) (s := s) va
      · rw [de (f := D.tuple) (fun _ _ h => by injection h) xs ys decide_eq_true_iff]
        revert hab
        exact ra.tupleE fun _ _ _ _ h1 c1 e1 r1 => rb.tupleE fun _ _ _ _ h2 c2 e2 r2 hab => EqAt.of_refs (fun q => hab (q ▸ rfl)) (rc_tuples ih h1 c1 e1 r1 h2 c2 e2 r2 h' hu)

variable {Y : Sys}
theorem any_mem {g : View} {vs : List Value} {xs : List D} (r : RepL g vs xs) (x : D) (f : Value → Bool) (hf : ∀ v d, Rep g v d → f v = decide (d = x)) : vs.toArray.any f = decide (x ∈ xs) := by
  rw [Bool.eq_iff_iff]
  simp only [List.any_toArray, List.any_eq_true, decide_eq_true_eq]
  constructor
  · rintro ⟨v, hv, e⟩
    obtain ⟨i, hi⟩ := List.mem_iff_getElem?.mp hv
    obtain ⟨d, hd, rd⟩ := r.get' hi
    rw [hf v d rd] at e
    have := of_decide_eq_true e
    subst this
    exact List.mem_of_getElem? hd
  · intro hm
    obtain ⟨i, hi⟩ := List.mem_iff_getElem?.mp hm
    obtain ⟨v, hv, rv⟩ := r.get hi
    exact ⟨v, List.mem_of_getElem? hv, by rw [hf v x rv]; simp⟩

theorem cmp_sound {E : Value → Shared → Prop} {op : CmpOp} {a b : D} {va vb : Value} {Q : Bool → Prop} (p : cmpP op a b Q) (ra : Rep (vis s.heap hid) va a) (rb : Rep (vis s.heap hid) vb b) (R : Room 0 A) :
    wpAny (model Y.prog Y.w) A (compareOp op va vb) (fun v s' => s' = s ∧ ∃ t, v = .bool t ∧ Q t) E s := by
  have hu : A.units + 100 < cLine := by have := R.u; omega
  have hu7 : A.units + (7 + 1) < cLine := by omega
  cases p with
  | eqI a b p => exact ra.intE fun _ => rb.intE fun _ => eq_int ⟨rfl, _, rfl, p⟩
  | eqS a b p => exact ra.strE fun _ => rb.strE fun _ => eq_str ⟨rfl, _, rfl, p⟩
  | eqL a b q p => exact ra.listE fun _ _ _ _ h1 c1 e1 r1 => rb.listE fun _ _ _ _ h2 c2 e2 r2 => (rc_lists (eq_at 7) h1 c1 e1 r1 h2 c2 e2 r2 q hu7).1 _ _ _ _ ⟨rfl, _, rfl, p⟩
  | eqT a b q p => exact ra.tupleE fun _ _ _ _ h1 c1 e1 r1 => rb.tupleE fun _ _ _ _ h2 c2 e2 r2 => (rc_tuples (eq_at 7) h1 c1 e1 r1 h2 c2 e2 r2 q hu7) _ _ _ _ ⟨rfl, _, rfl, p⟩
  | neI a b p => exact ra.intE fun _ => rb.intE fun _ => ne_int ⟨rfl, _, rfl, p⟩
  | neL a b q p => exact ra.listE fun _ _ _ _ h1 c1 e1 r1 => rb.listE fun _ _ _ _ h2 c2 e2 r2 => (rc_lists (eq_at 7) h1 c1 e1 r1 h2 c2 e2 r2 q hu7).2 _ _ _ _ ⟨rfl, _, rfl, p⟩
  | ltI a b p => exact ra.intE fun _ => rb.intE fun _ => lt_int ⟨rfl, _, rfl, p⟩
  | gtI a b p => exact ra.intE fun _ => rb.intE fun _ => gt_int ⟨rfl, _, rfl, p⟩
  | ltS a b p => exact ra.strE fun _ => rb.strE fun _ => lt_str ⟨rfl, _, rfl, p⟩
  | gtS a b p => exact ra.strE fun _ => rb.strE fun _ => P.gt_str ⟨rfl, _, rfl, p⟩
  | notIn _ xs q p =>
    refine rb.listE fun l o vs n h2 c2 e2 r2 => ?_
    have hf : ∀ v d, Rep (vis s.heap hid) v d → (fun v => decide (∀ d, Rep (vis s.heap hid) v d → d = a)) v = decide (d = a) := by
      intro v d r
      rw [Bool.eq_iff_iff]
      simp only [decide_eq_true_eq]
      exact ⟨fun q => q d r, fun q d' r' => by rw [← q]; exact Rep.fn r' r⟩
    refine notIn_listAt (fun v => decide (∀ d, Rep (vis s.heap hid) v d → d = a)) (rep_isList h2 c2 e2) (fun y hy => ?_) ?_
    · obtain ⟨i, hi⟩ := List.mem_iff_getElem?.mp (by simpa using hy : y ∈ vs)
      obtain ⟨d, hd, rd⟩ := r2.get' hi
      rw [show decide (∀ d, Rep (vis s.heap hid) y d → d = a) = decide (d = a) from hf y d rd]
      exact eq_at 8 (List.all_eq_true.mp q d (List.mem_of_getElem? hd)) rd ra (by show A.units + 1 + 8 < cLine; omega)
    · rw [any_mem r2 a _ hf]
      exact ⟨rfl, _, rfl, p⟩
end
end Mine
end
section
set_option tactic.hygienic false
open PySem PySem.W PySem.Calls PyProof.Rows
namespace Mine

section
variable {Y : Sys} {T : Tab} {n : Nat} {A : Around} {E : Value → Shared → Prop} {s : Shared} {hid : Addr → Bool}

theorem get_list {l : Addr} {vs : List Value} {i : Int} {t : Tok} {j : Nat} {v : Value} {Q : Value → Shared → Prop} (hl : s.heap.IsList l vs.toArray) (h1 : -(2 ^ 63) ≤ i) (h2 : i < 2 ^ 63)
    (hj : seqIndex? i vs.length = some j) (hv : vs[j]? = some v) (h : Q v s) : wpAny (model Y.prog Y.w) A (getItem (.ref l) (.int i t)) Q E s := by
  by_cases h0 : 0 ≤ i
  · have e : i.toNat = j := by
      unfold seqIndex? at hj
      have hn : ¬ i < 0 := by (first | lia | omega)
      simp only [hn, if_false] at hj
      split at hj <;> simp at hj
      exact hj
    exact wpAny_getItem_list hl h0 h2 (by simpa [e] using hv) h
  · have hn : i < 0 := by (first | lia | omega)
    unfold seqIndex? at hj
    simp only [hn, if_true] at hj
    split at hj
    · rename_i hc
      have e : (i + (vs.length : Int)).toNat = j := by simpa using hj
      refine wpAny_getItem_list_neg hl hn (by simp; simp at hc; (first | lia | omega)) h1 ?_ h
      simp only [List.size_toArray]
      rw [e]
      simpa using hv
    · cases hj

theorem get_sound {a b : D} {va vb : Value} {Q : D → Prop} (p : getP a b Q) (ra : Rep (vis s.heap hid) va a) (rb : Rep (vis s.heap hid) vb b) (g : Y.G s.heap) :
    wpAny (model Y.prog Y.w) A (getItem va vb) (Post Y hid s Q) E s := by
  cases p with
  | list xs i j d hi hj hx p =>
    refine rb.intE fun _ => ra.listE fun l o vs k h c e r => ?_
    obtain ⟨v, hv, rv⟩ := r.get hx
    exact get_list (rep_isList h c e) hi.1 hi.2 (by rw [r.length]; exact hj) hv (post_here g rv p)
  | tuple xs i j d hi hj hx p =>
    refine rb.intE fun _ => ra.tupleE fun l o vs k h c e r => ?_
    obtain ⟨v, hv, rv⟩ := r.get hx
    exact getItem_tuple (rep_isTuple h c e) hi.1 hi.2 (by simpa [r.length] using hj) (by simpa using hv) (post_here g rv p)
  | str x i hi p =>
    refine ra.strE fun _ => rb.intE fun _ => ?_
    obtain ⟨h1, h2, h3⟩ := hi
    have hlt : i.toNat < x.cps.size := by have : (i.toNat : Int) = i := by (first | lia | omega)
                                          have : x.length = x.cps.size := rfl
                                          (first | lia | omega)
    refine P.getItem_str (c := x.cps.getD i.toNat 0) ?_ ?_ (post_same g (fun _ => .str _ _) p)
    · simp; (first | lia | omega)
    · have e : seqIndex? i x.length = some i.toNat := by
        unfold seqIndex?
        have hn : ¬ i < 0 := by (first | lia | omega)
        simp only [hn, if_false]
        rw [if_pos (by have : x.length = x.cps.size := rfl; simp; (first | lia | omega))]
      rw [e]
      simp [Array.getD, hlt]
  | bytes b i c hi hx p =>
    refine ra.bytesE fun t => rb.intE fun u => ?_
    have hlt : i.toNat < b.toList.length := (List.getElem?_eq_some_iff.mp hx).1
    have ec : b.toList.getD i.toNat 0 = c := by simp [List.getD, hx]
    have h3 : sizeLine = 16777216 := by decide
    have h4 : b.toList.length = b.size := by simp
    have := getItem_bytes (prog := Y.prog) (w := Y.w) (A := A) (E := E) (s := s) (t := t) (u := u) (l := b.toList) (i := i) (Q := Post Y hid s Q) (by (first | lia | omega)) hi.1 (by (first | lia | omega)) (by rw [ec]; exact post_same g (fun _ => .int _ _) p)
    simpa using this

noncomputable def IsSl (h : Heap) (a : Addr) (l u st : Value) : Prop := h.get? a = some { cls := .type "slice", data := .fields #[l, u, st] }
theorem IsSl.of {h : Heap} {a : Addr} {l u st : Value} (x : IsSl h a l u st) : h.IsSliceOf a l u st := ⟨_, x, rfl, rfl⟩

noncomputable def optV : Option Value → Value
  | none => .none
  | some v => v

/-- the parts of a slice and their values -/
noncomputable def RepO (g : View) : Value → Option D → Prop
  | v, none => v = .none
  | v, some d => Rep g v d

theorem part_of {v : Value} {d : Option D} {x : Option Int} {g : View} (r : RepO g v d) (e : partD d = some x) : IsPart v x := by
  cases d with
  | none => cases r; cases e; exact .none
  | some d =>
    cases d <;> cases e
    have r : Rep g v (.int _) := r
    obtain ⟨t, rfl⟩ := r.int_
    exact .int _ _

theorem cut_sub {α : Type} (lo hi : Option Int) (xs : List α) : (cutL lo hi xs).length ≤ xs.length := by
  unfold cutL; simp; omega

theorem cut_rep {g : View} {vs : List Value} {ds : List D} (r : RepL g vs ds) (lo hi : Option Int) : RepL g (cutL lo hi vs) (cutL lo hi ds) := by
  unfold cutL
  rw [r.length]
  exact (r.drop _).take _

theorem pick_cut (vs : List Value) (lo hi : Option Int) : slicePick vs.toArray lo hi none = (cutL lo hi vs).toArray := by
  unfold slicePick cutL
  rw [sliceBounds_plain]
  simp only [sliceRange_one, pick_run, List.size_toArray]

theorem str_idx (n : Nat) (lo hi : Option Int) : Builtin.Str.strSliceIndices lo hi 1 n = (List.range (hi.elim n (clipAt n) - lo.elim 0 (clipAt n))).map (fun x => lo.elim 0 (clipAt n) + x) := by
  have e : Builtin.Str.strSliceIndices lo hi 1 n = sliceRange ((lo.elim 0 (clipAt n) : Nat) : Int) ((hi.elim n (clipAt n) : Nat) : Int) 1 := by
    unfold Builtin.Str.strSliceIndices
    simp only [show (1 : Int) > 0 from by decide, if_true]
    congr 1
    · cases lo with
      | none => rfl
      | some i => simp only [Option.elim]; unfold clipAt; (first | lia | omega)
    · cases hi with
      | none => rfl
      | some i => simp only [Option.elim]; unfold clipAt; (first | lia | omega)
  rw [e, sliceRange_one]
theorem str_cut (x : Str) (lo hi : Option Int) : ((Builtin.Str.strSliceIndices lo hi 1 x.length).filterMap (x.cps[·]?)) = cutL lo hi x.cps.toList := by
  rw [str_idx, pick_run]
  rfl
theorem clip_le (n : Nat) (i : Int) : clipAt n i ≤ n := by unfold clipAt; omega
theorem hi_le (n : Nat) (hi : Option Int) : hi.elim n (clipAt n) ≤ n := by
  cases hi with
  | none => exact Nat.le_refl _
  | some i => exact clip_le n i
theorem cut_whole {α : Type} (xs : List α) (lo hi : Option Int) (h : hi.elim xs.length (clipAt xs.length) - lo.elim 0 (clipAt xs.length) = xs.length) : cutL lo hi xs = xs := by
  have h1 := hi_le xs.length hi
  unfold cutL
  rw [h]
  by_cases hz : xs.length = 0
  · have : xs = [] := List.length_eq_zero_iff.mp hz
    subst this; simp
  · have h2 : lo.elim 0 (clipAt xs.length) = 0 := by (first | lia | omega)
    rw [h2]; simp

theorem slice_sound (O : SysOk Y) {d : D} {lo hi st : Option D} {v vl vu vs : Value} {a : Addr} {Q : D → Prop} (p : sliceP d lo hi st Q) (rd : Rep (vis s.heap hid) v d) (rl : RepO (vis s.heap hid) vl lo) (ru : RepO (vis s.heap hid) vu hi) (rs : RepO (vis s.heap hid) vs st)
    (hs : IsSl s.heap a vl vu vs) (g : Y.G s.heap) (H : HidOk Y hid s.heap) : wpAny (model Y.prog Y.w) A (getItem v (.ref a)) (Post Y hid s Q) E s := by
  obtain ⟨l, u, hl, hu, p⟩ := p
  have pl := part_of rl hl
  have pu := part_of ru hu
  cases p with
  | list xs q p =>
    cases rs
    refine rd.listE fun b o ws k h c e r => ?_
    refine wpAny_getItem_list_slice (rep_isList h c e) hs.of pl pu .none (by simp) ?_ (by simpa [r.length] using q)
    rw [pick_cut]
    exact post_list O g H (cut_rep r l u) p
  | rev xs i q p =>
    obtain ⟨q, rfl, rfl, rfl⟩ := q
    have rs : Rep (vis s.heap hid) vs (.int (-1)) := rs
    obtain ⟨t, rfl⟩ := rs.int_
    refine rd.listE fun b o ws k h c e r => ?_
    refine wpAny_getItem_list_slice (rep_isList h c e) hs.of pl pu (.int _ _) (by simp) ?_ (by simpa [r.length] using q)
    rw [krv_pick]
    exact post_list O g H r.reverse p
  | str x q p =>
    cases rs
    refine rd.strE fun t => ?_
    have mk : ∀ (v : Value) (i : Option Int), IsPart v i → ∃ o : Option (Int × Tok), v = partValue o ∧ o.map (·.1) = i := by
      intro v i q
      cases q with
      | none => exact ⟨none, rfl, rfl⟩
      | int i t => exact ⟨some (i, t), rfl, rfl⟩
    obtain ⟨ol, rfl, el⟩ := mk _ _ pl
    obtain ⟨ou, rfl, eu⟩ := mk _ _ pu
    refine wpAny_getItem_str_slice (l := ol) (u := ou) (st := none) ⟨_, hs, rfl, rfl⟩ rfl ?_
    unfold sliceMade slicePicked
    rw [el, eu]
    simp only [Option.map_none, Option.getD_none]
    rw [str_cut]
    split
    · rename_i hc
      simp only [beq_self_eq_true, Bool.true_and, beq_iff_eq, str_idx, List.length_map, List.length_range] at hc
      have e2 : (⟨(cutL l u x.cps.toList).toArray⟩ : Str) = x := by
        rw [cut_whole _ _ _ (by simpa [Str.length] using hc)]
      rw [e2] at p
      exact post_here g (.str _ _) p
    · refine ⟨?_, post_same g (fun _ => .str _ _) p⟩
      have h1 := cut_sub l u x.cps.toList
      have h2 := q
      simp only [Str.length, List.size_toArray] at h1 h2 ⊢
      simp at h1
      (first | lia | omega)
  | bytes b q p =>
    cases rs
    refine rd.bytesE fun t => ?_
    have e2 : KBy.picked b l u = (cutL l u b.toList).toArray := by
      rw [KBc.picked_eq]
      unfold cutL
      simp
    refine getItem_meets (typeIs_bytes s b t) (by decide) FB.slot_bytes_getitem FB.entry_bytes_getitem (FB.args_bytes_getitem_2 _ _) (KBc.meets_slice2 b t a pl pu) ⟨hs.of, ?_, fun t' k => ?_⟩
    · exact Nat.le_trans (KBc.size_picked_le b l u) q
    · rw [e2]
      exact post_same g (fun _ => .bytes _ _) p
end
end Mine
end
section
set_option tactic.hygienic false
open PySem PySem.W PySem.Calls PyProof.Rows
namespace Mine

section
variable {Y : Sys} {T : Tab} {n : Nat} {A : Around} {E : Value → Shared → Prop} {s : Shared} {hid : Addr → Bool}

set_option tactic.hygienic true in
theorem intsOf_cons {d : D} {xs : List D} {ns : List Int} (e : intsOf? (d :: xs) = some ns) : ∃ i ms, d = .int i ∧ intsOf? xs = some ms ∧ ns = i :: ms := by
  cases d <;> first | (cases e; done) | skip
  rename_i i
  change (intsOf? xs).map (fun ns => i :: ns) = some ns at e
  obtain ⟨ms, h, e⟩ := Option.map_eq_some_iff.mp e
  exact ⟨i, ms, rfl, h, e.symm⟩
theorem intsOf_rep {g : View} : ∀ {xs : List D} {ns : List Int} {vs : List Value}, intsOf? xs = some ns → RepL g vs xs → IntsAre vs ns
  | [], _, _, e, r => by cases e; exact r.nilE .nil
  | d :: xs, ns, _, e, r => by
    obtain ⟨i, ms, rfl, h, rfl⟩ := intsOf_cons e
    exact r.consE fun v vs h1 r => h1.intE fun t => .cons _ _ (intsOf_rep h r)
set_option tactic.hygienic true in
theorem strsOf_cons {d : D} {xs : List D} {ns : List Str} (e : strsOf? (d :: xs) = some ns) : ∃ i ms, d = .str i ∧ strsOf? xs = some ms ∧ ns = i :: ms := by
  cases d <;> first | (cases e; done) | skip
  rename_i i
  change (strsOf? xs).map (fun ns => i :: ns) = some ns at e
  obtain ⟨ms, h, e⟩ := Option.map_eq_some_iff.mp e
  exact ⟨i, ms, rfl, h, e.symm⟩
theorem strsOf_rep {g : View} : ∀ {xs : List D} {ys : List Str} {vs : List Value}, strsOf? xs = some ys → RepL g vs xs → ∃ l : List (Str × Tok), strValues l = vs ∧ l.map (·.1) = ys
  | [], _, _, e, r => by cases e; exact r.nilE ⟨[], rfl, rfl⟩
  | d :: xs, ns, _, e, r => by
    obtain ⟨i, ms, rfl, h, rfl⟩ := strsOf_cons e
    refine r.consE fun v vs h1 r => h1.strE fun t => ?_
    obtain ⟨l, e1, e2⟩ := strsOf_rep h r
    exact ⟨(i, t) :: l, by rw [← e1]; rfl, by rw [← e2]; rfl⟩

theorem RepL.of_get {g : View} : ∀ {vs : List Value} {ds : List D}, vs.length = ds.length → (∀ (i : Nat) (v : Value) (d : D), vs[i]? = some v → ds[i]? = some d → Rep g v d) → RepL g vs ds
  | [], [], _, _ => .nil
  | [], _ :: _, h, _ => by simp at h
  | _ :: _, [], h, _ => by simp at h
  | v :: vs, d :: ds, h, k => .cons (k 0 v d (by simp) (by simp)) (RepL.of_get (by simpa using h) fun i v d e1 e2 => k (i + 1) v d (by simpa using e1) (by simpa using e2))

theorem sizeLine_lt : ((sizeLine : Nat) : Int) < 2 ^ 63 := by decide

theorem len_sound {d : D} {v : Value} {k : Nat} {Q : D → Prop} (e : lenD d = some k) (hk : k ≤ sizeLine) (q : Q (.int k)) (r : Rep (vis s.heap hid) v d) (g : Y.G s.heap) :
    wpAny (model Y.prog Y.w) A (call (.builtin "len") [v]) (Post Y hid s Q) E s := by
  have hz := sizeLine_lt
  have hk' : (k : Int) < 2 ^ 63 := by (first | lia | omega)
  cases d <;> first | (cases e; done) | skip
  · cases e; exact r.strE fun _ => len_str (fun q => absurd hk' (Int.not_lt.mpr q)) (post_same g (fun _ => .int _ _) q)
  · cases e; exact r.bytesE fun _ => len_bytes (by have : sizeLine = 16777216 := by decide
                                                   (first | lia | omega)) (post_same g (fun _ => .int _ _) q)
  · cases e
    exact r.listE fun a o vs n h c e r => call_len_list (rep_isList h c e) (by rw [List.size_toArray, r.length]; exact hk') (post_same g (fun _ => by rw [List.size_toArray, r.length]; exact .int _ _) q)
  · cases e
    exact r.tupleE fun a o vs n h c e r => len_tuple (rep_isTuple h c e) (by rw [List.size_toArray, r.length]; exact hk') (post_same g (fun _ => by rw [List.size_toArray, r.length]; exact .int _ _) q)

theorem bi_sound (O : SysOk Y) {f : Str} {ds : List D} {vs : List Value} {fv : Value} {Q : D → Prop} (hf : biVal f = some fv) (p : biP f ds Q) (r : RepL (vis s.heap hid) vs ds) (g : Y.G s.heap) (H : HidOk Y hid s.heap) (R : Room 0 A) :
    wpAny (model Y.prog Y.w) A (call fv vs) (Post Y hid s Q) E s := by
  cases p with
  | len d n e q p =>
    have hv : fv = .builtin "len" := Option.some.inj (hf.symm.trans (by kernel_rfl!))
    subst hv
    exact r.consE fun v vs h r => r.nilE (len_sound e q p h g)
  | range1 b q p =>
    have hv : fv = .type "range" := Option.some.inj (hf.symm.trans (by kernel_rfl!))
    subst hv
    exact r.consE fun v vs h r => r.nilE (h.intE fun t => call_range_1 ⟨Up.ext O g fun _ _ e => Heap.get?_push_of_some _ e, _, .range (rep_new H rfl), p⟩)
  | range3 a b c q p =>
    have hv : fv = .type "range" := Option.some.inj (hf.symm.trans (by kernel_rfl!))
    subst hv
    refine r.consE fun v vs ha r => r.consE fun v vs hb r => r.consE fun v vs hc r => r.nilE (ha.intE fun _ => hb.intE fun _ => hc.intE fun _ => ?_)
    obtain ⟨s1, s2, s3, hc⟩ := q
    refine call_range_3 hc ⟨Up.ext O g fun _ _ e => Heap.get?_push_of_some _ e, _, .range (rep_new H rfl), p⟩ (.inl ?_)
    unfold Builtin.divisionGoesByPylong
    have hl : ¬ ((if (c == 0) = true then 0 else c.natAbs.log2 / 30 + 1) > 300) := by
      have hz : (c == 0) = false := by simpa using hc
      simp only [hz, Bool.false_eq_true, if_false]
      have : c.natAbs.log2 < 63 := (Nat.log2_lt (by (first | lia | omega))).mpr (by have := s3.1; have := s3.2; (first | lia | omega))
      (first | lia | omega)
    simp only []
    rw [decide_eq_false hl, Bool.false_and]
  | list a b c xs hi q p =>
    have hv : fv = .type "list" := Option.some.inj (hf.symm.trans (by kernel_rfl!))
    subst hv
    refine r.consE fun v vs h r => r.nilE (h.rangeE fun rr t u w h => ?_)
    change (if Builtin.Range.small a b c = true ∧ c ≠ 0 then some (rangeL a b c) else none) = some xs at hi
    by_cases hs : Builtin.Range.small a b c = true ∧ c ≠ 0
    · rw [if_pos hs] at hi
      cases hi
      have hn : Builtin.Range.rangeSize a b c = ((Builtin.Range.rangeSize a b c).toNat : Int) := by
        have : 0 ≤ Builtin.Range.rangeSize a b c := by
          unfold Builtin.Range.rangeSize
          split
          · split
            · have := Int.ediv_nonneg (a := b - a - 1) (b := c) (by (first | lia | omega)) (by (first | lia | omega)); (first | lia | omega)
            · (first | lia | omega)
          · split
            · have := Int.ediv_nonneg (a := a - b - 1) (b := -c) (by (first | lia | omega)) (by (first | lia | omega)); (first | lia | omega)
            · (first | lia | omega)
        (first | lia | omega)
      have hlen : (rangeL a b c).length = (Builtin.Range.rangeSize a b c).toNat := by
        unfold rangeL
        rw [if_neg hs.2]; simp
      refine call_list_range R.h (vis_get h).1 hs.1 hn (by rw [← hlen]; exact q) fun h' tk acc' c' hk hd hi => ?_
      refine ⟨Up.ext O g hk, _, .list (vs := acc'.toList) (n := c') (vis_of hd (H.fresh (get_size _))) rfl (by simp) ?_, p⟩
      refine RepL.of_get (by rw [hlen, ← hi.1]; simp) fun i v d e1 e2 => ?_
      obtain ⟨t, rfl⟩ := hi.2 i v (by simpa using e1)
      unfold rangeL at e2
      rw [if_neg hs.2] at e2
      simp only [List.getElem?_map, Option.map_eq_some_iff] at e2
      obtain ⟨j, e3, rfl⟩ := e2
      have : j = i := by
        rw [List.getElem?_range] at e3
        · cases e3; rfl
        · rw [List.getElem?_eq_some_iff] at e3
          simpa using e3.1
      subst this
      exact .int _ _
    · rw [if_neg hs] at hi; cases hi
  | bytes xs ns q hi hb p =>
    have hv : fv = .type "bytes" := Option.some.inj (hf.symm.trans (by kernel_rfl!))
    subst hv
    exact r.consE fun v vs h r => r.nilE (h.listE fun a o vs n h c e r => call_bytes_ints (rep_isList h c e) (intsOf_rep hi r) hb (by rw [r.length]; exact q) R.h fun h' t k hk => ⟨Up.ext O g hk, _, .bytes _ _, p⟩)

theorem methId_facts {m : Str} {id : String} (h : methId m = some id) : Slot "str" m id ∧ typeOf (.builtin id) = pure (.type "method_descriptor") := by
  unfold methId at h
  split at h
  · rename_i e; subst e; cases h; exact ⟨F.slot_str_join, F.type_str_join⟩
  · split at h
    · rename_i e; subst e; cases h; exact ⟨F.slot_str_index, F.type_str_index⟩
    · cases h

theorem meth_call {m : Str} {id : String} {x : Str} {t : Tok} {ds : List D} {vs : List Value} {Q : D → Prop} (hm : methId m = some id) (p : methP m (.str x) ds Q) (r : RepL (vis s.heap hid) vs ds) (g : Y.G s.heap) (R : Room 0 A) :
    wpAny (model Y.prog Y.w) A (call (.builtin id) (.str x t :: vs)) (Post Y hid s Q) E s := by
  cases p with
  | join _ xs ys hs hj p =>
    have : id = "str.join" := Option.some.inj (hm.symm.trans (by kernel_rfl!))
    subst this
    refine r.consE fun v vs h r => r.nilE (h.listE fun a o vs n h c e r => ?_)
    obtain ⟨l, e1, e2⟩ := strsOf_rep hs r
    exact SC.join (l := l) (by rw [e1]; exact rep_isList h c e) e2 hj fun t' k => post_same g (fun _ => .str _ _) p
  | index _ y hj p =>
    have : id = "str.index" := Option.some.inj (hm.symm.trans (by kernel_rfl!))
    subst this
    exact r.consE fun v vs h r => r.nilE (h.strE fun _ => index_or R.h (fun e => by omega) fun _ _ => post_same g (fun _ => .int _ _) p)

theorem isi_sound {t : Str} {d : D} {v : Value} {Q : D → Prop} (p : isiP t d Q) (r : Rep (vis s.heap hid) v d) (g : Y.G s.heap) :
    ∃ tn : String, t = Str.ofString tn ∧ (tn = "bytes" ∨ tn = "bool") ∧ wpAny (model Y.prog Y.w) A (call (.builtin "isinstance") [v, .type tn]) (Post Y hid s Q) E s := by
  cases p with
  | bytes b p => exact r.bytesE fun _ => ⟨"bytes", rfl, .inl rfl, call_isinstance (isinstance_true (Tx := "bytes") F.isi_meta_bytes F.isi_self_bytes) ⟨rfl, post_here g (.bool _) p⟩⟩
  | int i p => exact r.intE fun _ => ⟨"bool", rfl, .inr rfl, IsiPair.int_bool (post_same g (fun _ => .bool _) p)⟩
end
end Mine
end
section
set_option tactic.hygienic false
open PySem PySem.W PySem.Calls PyProof.Rows
namespace Mine

noncomputable def VarAt (env : Env) (h : Heap) (x : Str) (v : Value) : Prop :=
  (env.kindOf x = some .local ∧ ∃ m, h.Ns env.locals m ∧ m x = some v) ∨
  ((env.kindOf x = some .cell ∨ env.kindOf x = some .free) ∧ (x == ("__classdict__" : Str)) = false ∧ ∃ c, env.cells.lookup x = some c ∧ h.IsCell c (some v))

structure EnvOk (Y : Sys) (sc : Scope) (env : Env) (h : Heap) (hid : Addr → Bool) (ρ : List (Str × D)) : Prop where
  kind : env.scope.kind = .function
  sce : env.scope = sc
  glob : env.globals = mainGlobals
  bui : env.builtins = builtinsNs
  baseL : Y.base.get? env.locals = none
  cells : ∀ x, sc.names.lookup x = some .cell → (x == ("__classdict__" : Str)) = false ∧ ∃ c, env.cells.lookup x = some c
  cellAt : ∀ z c, env.cells.lookup z = some c → ∃ v, h.IsCell c v
  vars : ∀ x d, ρ.lookup x = some d → (x == ("__debug__" : Str)) = false ∧ ∃ v, VarAt env h x v ∧ Rep (vis h hid) v d

section
variable {Y : Sys} {T : Tab} {k : Nat} {A : Around} {E : Value → Shared → Prop} {s : Shared} {hid : Addr → Bool} {env : Env} {sc : Scope} {ρ : List (Str × D)}

theorem ns_notP (O : SysOk Y) {h : Heap} {a : Addr} {m : Str → Option Value} (g : Y.G h) (n : h.Ns a m) : a ≠ Y.P := by
  rintro rfl
  obtain ⟨ps, e⟩ := O.tab h g
  obtain ⟨o, es, ep, e', d, _⟩ := n
  rw [e] at e'; cases e'; cases d
theorem cell_notP (O : SysOk Y) {h : Heap} {a : Addr} {v : Option Value} (g : Y.G h) (n : h.IsCell a v) : a ≠ Y.P := by
  rintro rfl
  obtain ⟨ps, e⟩ := O.tab h g
  obtain ⟨o, e', d⟩ := n
  rw [e] at e'; cases e'; cases d
theorem ns_kp (O : SysOk Y) {h h' : Heap} {a : Addr} {m : Str → Option Value} (g : Y.G h) (q : Kp Y.P h h') (n : h.Ns a m) : h'.Ns a m :=
  n.at' fun o e => q a o (ns_notP O g n) e
theorem cell_kp (O : SysOk Y) {h h' : Heap} {a : Addr} {v : Option Value} (g : Y.G h) (q : Kp Y.P h h') (n : h.IsCell a v) : h'.IsCell a v := by
  have hp := cell_notP O g n
  obtain ⟨o, e, d⟩ := n
  exact ⟨o, q a o hp e, d⟩
theorem VarAt.up (O : SysOk Y) {h h' : Heap} {x : Str} {v : Value} (g : Y.G h) (q : Kp Y.P h h') (r : VarAt env h x v) : VarAt env h' x v := by
  rcases r with ⟨e, m, n, hm⟩ | ⟨e, hc, c, e2, n⟩
  · exact .inl ⟨e, m, ns_kp O g q n, hm⟩
  · exact .inr ⟨e, hc, c, e2, cell_kp O g q n⟩
theorem EnvOk.up (O : SysOk Y) {h h' : Heap} (V : EnvOk Y sc env h hid ρ) (g : Y.G h) (q : Kp Y.P h h') (hp : hid Y.P = true) : EnvOk Y sc env h' hid ρ :=
  ⟨V.kind, V.sce, V.glob, V.bui, V.baseL, V.cells, fun z c e => (let ⟨v, n⟩ := V.cellAt z c e; ⟨v, cell_kp O g q n⟩), fun x d e => by
    obtain ⟨a, v, r, p⟩ := V.vars x d e
    exact ⟨a, v, r.up O g q, p.up hp q⟩⟩

noncomputable def SndE (Y : Sys) (k : Nat) (sc : Scope) (ρ : List (Str × D)) (ev : Expr → (D → Prop) → Prop) : Prop :=
  ∀ (e : Expr) (Q : D → Prop) (A : Around) (s : Shared) (env : Env) (hid : Addr → Bool) (E : Value → Shared → Prop),
    ev e Q → EnvOk Y sc env s.heap hid ρ → Y.G s.heap → HidOk Y hid s.heap → Room k A → wpAny (model Y.prog Y.w) A (eval e env) (Post Y hid s Q) E s

theorem bindP {t : Sem Value} {Q1 : D → Prop} {R : Value → Shared → Prop} (h : wpAny (model Y.prog Y.w) A t (Post Y hid s Q1) E s)
    (f' : ∀ v s' d, Up Y s s' → Rep (vis s'.heap hid) v d → Q1 d → R v s') : wpAny (model Y.prog Y.w) A t R E s :=
  wpAny_mono h (fun v s' ⟨u, d, r, q⟩ => f' v s' d u r q) fun _ _ x => x
theorem endP {t : Sem Value} {s' : Shared} {Q : D → Prop} (u : Up Y s s') (h : wpAny (model Y.prog Y.w) A t (Post Y hid s' Q) E s') : wpAny (model Y.prog Y.w) A t (Post Y hid s Q) E s' :=
  wpAny_mono h (fun _ _ p => p.up u) fun _ _ x => x

/-- the end of a test -/
noncomputable def PostB (Y : Sys) (s : Shared) (Q : Bool → Prop) (b : Bool) (s' : Shared) : Prop := Up Y s s' ∧ Q b
theorem endB {t : Sem Bool} {s' : Shared} {Q : Bool → Prop} (u : Up Y s s') (h : wpAny (model Y.prog Y.w) A t (PostB Y s' Q) E s') : wpAny (model Y.prog Y.w) A t (PostB Y s Q) E s' :=
  wpAny_mono h (fun _ _ p => ⟨u.trans p.1, p.2⟩) fun _ _ x => x

theorem truth_sound {d : D} {v : Value} {Q : Bool → Prop} (p : truthP d Q) (r : Rep (vis s.heap hid) v d) (g : Y.G s.heap) : wpAny (model Y.prog Y.w) A (truthy v) (PostB Y s Q) E s := by
  cases p with
  | bool b p => exact r.boolE (wpAny_truthy_bool ⟨Up.refl g, p⟩)
  | list xs q p =>
    refine r.listE fun a o vs n h c e r => ?_
    have h1 := sizeLine_lt
    refine wpAny_truthy_list (rep_isList h c e) (by rw [List.size_toArray, r.length]; (first | lia | omega)) ⟨Up.toks g _, ?_⟩
    have e1 : vs.toArray.isEmpty = xs.isEmpty := by
      cases xs with
      | nil => exact r.nilE rfl
      | cons _ _ => exact r.consE fun _ _ _ _ => by simp
    rw [e1]; exact p

theorem snd_cmp (O : SysOk Y) {ev : Expr → (D → Prop) → Prop} (S : SndE Y k sc ρ ev) {l r : Expr} {op : CmpOp} {Q : Bool → Prop} (p : ev l fun a => ev r fun b => cmpP op a b Q)
    (V : EnvOk Y sc env s.heap hid ρ) (g : Y.G s.heap) (H : HidOk Y hid s.heap) (R : Room k A) :
    wpAny (model Y.prog Y.w) A (eval l env) (fun a s₁ => wpAny (model Y.prog Y.w) A (eval r env) (fun b s₂ => wpAny (model Y.prog Y.w) A (compareOp op a b) (fun v s' => Up Y s s' ∧ ∃ t, v = .bool t ∧ Q t) E s₂) E s₁) E s := by
  refine bindP (S l _ A s env hid E p V g H R) fun va s1 a u1 ra p1 => ?_
  refine bindP (S r _ A s1 env hid E p1 (V.up O g u1.kp H.p) u1.g (H.ups O u1) R) fun vb s2 b u2 rb p2 => ?_
  refine wpAny_mono (cmp_sound (Y := Y) p2 (ra.up H.p u2.kp) rb (R.le (Nat.zero_le _))) (fun v s' q => ?_) fun _ _ x => x
  obtain ⟨rfl, t, rfl, q⟩ := q
  exact ⟨u1.trans u2, t, rfl, q⟩

theorem sndT (O : SysOk Y) {ev : Expr → (D → Prop) → Prop} (S : SndE Y k sc ρ ev) : ∀ (n : Nat) (e : Expr) (Q : Bool → Prop) (A : Around) (s : Shared) (env : Env) (hid : Addr → Bool) (E : Value → Shared → Prop),
    wpT ev n e Q → EnvOk Y sc env s.heap hid ρ → Y.G s.heap → HidOk Y hid s.heap → Room k A → wpAny (model Y.prog Y.w) A (isTrue e env (eval e env)) (PostB Y s Q) E s := by
  intro n
  induction n with
  | zero => intro e Q A s env hid E p; exact p.elim
  | succ n ih =>
    intro e Q A s env hid E p V g H R
    cases p with
    | not x pos p => exact wpAny_isTrue_Not (wpAny_mono (ih _ _ A s env hid E p V g H R) (fun b s' q => q) fun _ _ x => x)
    | or x y pos p =>
      refine wpAny_isTrue_BoolOp (wpAny_allTrue_Or_cons (wpAny_mono (ih _ _ A s env hid E p V g H R) (fun b s1 q => ?_) fun _ _ x => x))
      obtain ⟨u1, q⟩ := q
      cases b with
      | true => exact ⟨u1, q⟩
      | false =>
        simp only [Bool.false_eq_true, if_false]
        refine wpAny_allTrue_Or_cons (wpAny_mono (ih _ _ A s1 env hid E q (V.up O g u1.kp H.p) u1.g (H.ups O u1) R) (fun b s2 q2 => ?_) fun _ _ x => x)
        obtain ⟨u2, q2⟩ := q2
        cases b with
        | true => exact ⟨u1.trans u2, q2⟩
        | false => simp only [Bool.false_eq_true, if_false]; exact wpAny_pure ⟨u1.trans u2, q2⟩
    | cmp l op r pos hb p =>
      exact wpAny_isTrue_Compare1 (wpAny_mono (snd_cmp O S p V g H R) (fun a s1 q => wpAny_mono q (fun b s2 q => wpAny_mono q (fun v s3 q => by
        obtain ⟨u, t, rfl, q⟩ := q
        exact wpAny_truthy_bool ⟨u, q⟩) fun _ _ x => x) fun _ _ x => x) fun _ _ x => x) hb
    | val _ hp p =>
      exact wpAny_isTrue_value (bindP (S e _ A s env hid E p V g H R) fun v s1 d u1 r1 p1 => endB u1 (truth_sound p1 r1 u1.g)) (by cases e <;> first | rfl | exact absurd hp Bool.false_ne_true)

theorem sndEs (O : SysOk Y) {ev : Expr → (D → Prop) → Prop} (S : SndE Y k sc ρ ev) {pos : Pos} : ∀ (es : List Expr) (Q : List D → Prop) (s : Shared),
    wpEs ev es Q → EnvOk Y sc env s.heap hid ρ → Y.G s.heap → HidOk Y hid s.heap → Room k A →
    wpAny (model Y.prog Y.w) A (spliced (backTo pos (starEach es env))) (fun vs s' => Up Y s s' ∧ ∃ ds, RepL (vis s'.heap hid) vs ds ∧ Q ds) E s := by
  intro es
  induction es with
  | nil => intro Q s p V g H R; exact spliced_none ⟨Up.refl g, [], .nil, p⟩
  | cons e es ih =>
    intro Q s p V g H R
    obtain ⟨p0, p⟩ := p
    refine spliced_more (bindP (S e _ A s env hid E p V g H R) fun v s1 d u1 r1 p1 => ?_) (by cases e <;> first | rfl | cases p0)
    refine wpAny_mono (ih _ s1 p1 (V.up O g u1.kp H.p) u1.g (H.ups O u1) R) (fun vs s2 q => ?_) fun _ _ x => x
    obtain ⟨u2, ds, r2, q⟩ := q
    exact ⟨u1.trans u2, _, .cons (r1.up H.p u2.kp) r2, q⟩
end
end Mine
end
section
set_option tactic.hygienic false
open PySem PySem.W PySem.Calls PyProof.Rows
namespace Mine

noncomputable def hide (hid : Addr → Bool) (a : Addr) : Addr → Bool := fun b => hid b || b == a
theorem hide_self (hid : Addr → Bool) (a : Addr) : hide hid a a = true := by simp [hide]
theorem hide_of {hid : Addr → Bool} {a b : Addr} (h : hid b = true) : hide hid a b = true := by simp [hide, h]
theorem hide_false {hid : Addr → Bool} {a b : Addr} (h : hide hid a b = false) : hid b = false ∧ b ≠ a := by
  simp [hide] at h; exact h
theorem hide_ne {hid : Addr → Bool} {a b : Addr} (h : hid b = false) (n : b ≠ a) : hide hid a b = false := by simp [hide, h, n]

theorem Rep.unhide {h : Heap} {hid : Addr → Bool} {a : Addr} {v : Value} {d : D} (r : Rep (vis h (hide hid a)) v d) : Rep (vis h hid) v d :=
  r.mono fun b o _ e => by obtain ⟨e1, e2⟩ := vis_get e; exact vis_of e1 (hide_false e2).1
theorem RepL.unhide {h : Heap} {hid : Addr → Bool} {a : Addr} {v : List Value} {d : List D} (r : RepL (vis h (hide hid a)) v d) : RepL (vis h hid) v d :=
  r.mono fun b o _ e => by obtain ⟨e1, e2⟩ := vis_get e; exact vis_of e1 (hide_false e2).1
theorem Rep.hide_fresh {h : Heap} {hid : Addr → Bool} {a : Addr} {v : Value} {d : D} (ha : h.get? a = Option.none) (r : Rep (vis h hid) v d) : Rep (vis h (hide hid a)) v d :=
  r.mono fun b o _ e => by obtain ⟨e1, e2⟩ := vis_get e; exact vis_of e1 (hide_ne e2 (by rintro rfl; rw [ha] at e1; cases e1))

section
variable {Y : Sys} {T : Tab} {k : Nat} {A : Around} {E : Value → Shared → Prop} {s : Shared} {hid : Addr → Bool} {env : Env} {sc : Scope} {ρ : List (Str × D)}

theorem HidOk.hide {h : Heap} (H : HidOk Y hid h) {a : Addr} {o : Obj} (ha : h.get? a = some o) (hc : a ∉ Y.cA) : HidOk Y (hide hid a) h :=
  ⟨hide_of H.p, fun b hb => by
    simp only [Mine.hide, Bool.or_eq_true, beq_iff_eq] at hb
    rcases hb with hb | rfl
    · exact H.live b hb
    · exact ⟨o, ha⟩, fun b hb => hide_ne (H.cst b hb) (by rintro rfl; exact hc hb)⟩
theorem fresh_notC (O : SysOk Y) {h : Heap} (g : Y.G h) {a : Addr} (ha : h.get? a = none) : a ∉ Y.cA := fun hm => by
  obtain ⟨o, e⟩ := O.live h g a hm
  rw [ha] at e; cases e

/-- no iterator that shares its tuple -/
noncomputable def goOk (o : Obj) : Prop := ∃ n, o.cls = .type n ∧ (["enumerate", "zip", "dict_itemiterator", "dict_reverseitemiterator", "odict_iterator", "itertools.zip_longest", "itertools.pairwise"] : List String).contains n = false

/-- an iterator that has the given items before it -/
noncomputable def ItAt (Y : Sys) (A : Around) (hid : Addr → Bool) (fp wr : List Addr) (h : Heap) (it : Value) (rest : List D) : Prop :=
  ∃ I n i P St, it = .ref I ∧ Walks Y.prog Y.w A I fp wr n P St ∧ St i h ∧ n = i + rest.length ∧ (∀ b ∈ fp, b ≠ Y.P) ∧ (∀ b ∈ wr, hid b = true) ∧ (∀ i h, St i h → ∀ b ∈ wr, ∃ o, h.get? b = some o ∧ notCode o ∧ goOk o) ∧ (∀ j v, j < rest.length → P (i + j) v → ∃ d, rest[j]? = some d ∧ Rep (vis h hid) v d)

theorem ItAt.frame {fp wr : List Addr} {h h' : Heap} {it : Value} {rest : List D} (x : ItAt Y A hid fp wr h it rest) (hf : ∀ b ∈ fp, ∀ o, h.get? b = some o → h'.get? b = some o)
    (hd : ∀ b o, hid b = false → isDat o = true → h.get? b = some o → h'.get? b = some o) : ItAt Y A hid fp wr h' it rest := by
  obtain ⟨I, n, i, P, St, e, W, st, hn, hv, hw, hc, hr⟩ := x
  refine ⟨I, n, i, P, St, e, W, W.frame _ _ _ st hf, hn, hv, hw, hc, fun j v hj hp => ?_⟩
  obtain ⟨d, e1, r⟩ := hr j v hj hp
  exact ⟨d, e1, r.mono fun b o ho e => by obtain ⟨e1, e2⟩ := vis_get e; exact vis_of (hd b o e2 ho e1) e2⟩
theorem ItAt.up {fp wr : List Addr} {h h' : Heap} {it : Value} {rest : List D} (x : ItAt Y A hid fp wr h it rest) (hp : hid Y.P = true) (q : Kp Y.P h h') : ItAt Y A hid fp wr h' it rest := by
  have hv : ∀ b ∈ fp, b ≠ Y.P := by obtain ⟨I, n, i, P, St, e, W, st, hn, hv, hr⟩ := x; exact hv
  exact x.frame (fun b hb o e => q b o (hv b hb) e) fun b o hb _ e => q b o (by rintro rfl; rw [hb] at hp; cases hp) e
theorem ItAt.hide {fp wr : List Addr} {h : Heap} {it : Value} {rest : List D} {a : Addr} (x : ItAt Y A hid fp wr h it rest) (ha : h.get? a = none) : ItAt Y A (hide hid a) fp wr h it rest := by
  obtain ⟨I, n, i, P, St, e, W, st, hn, hv, hw, hc, hr⟩ := x
  refine ⟨I, n, i, P, St, e, W, st, hn, hv, fun b hb => hide_of (hw b hb), hc, fun j v hj hp => ?_⟩
  obtain ⟨d, e1, r⟩ := hr j v hj hp
  exact ⟨d, e1, r.hide_fresh ha⟩
theorem ItAt.self {fp wr : List Addr} {it : Value} {rest : List D} {Q : Value → Shared → Prop} (x : ItAt Y A hid fp wr s.heap it rest) (h : Q it s) : wpAny (model Y.prog Y.w) A (pyIter it) Q E s := by
  obtain ⟨I, n, i, P, St, rfl, W, st, hn, hv, hr⟩ := x
  exact W.self i s Q E st h

/-- what an iterator's step leaves -/
noncomputable def ButWr (wr : List Addr) (h h' : Heap) : Prop := ∀ b o, b ∉ wr → h.get? b = some o → h'.get? b = some o

theorem ItAt.next {fp wr : List Addr} {it : Value} {d : D} {rest : List D} {Q : Option Value → Shared → Prop} (x : ItAt Y A hid fp wr s.heap it (d :: rest))
    (h : ∀ v h' tk, ButWr wr s.heap h' → Rep (vis h' hid) v d → ItAt Y A hid fp wr h' it rest → Q (some v) { s with heap := h', toks := tk }) : wpAny (model Y.prog Y.w) A (pyNext it) Q E s := by
  obtain ⟨I, n, i, P, St, rfl, W, st, hn, hv, hw, hc, hr⟩ := x
  refine W.item i s Q E (by simp at hn; (first | lia | omega)) st fun v h' tk hp st' hk => ?_
  have up : ∀ {v : Value} {d : D}, Rep (vis s.heap hid) v d → Rep (vis h' hid) v d := fun r => r.mono fun b o ho e => by
    obtain ⟨e1, e2⟩ := vis_get e
    exact vis_of (hk b o (fun hm => by rw [hw b hm] at e2; cases e2) e1) e2
  obtain ⟨d', e1, r⟩ := hr 0 v (by simp) hp
  simp at e1; subst e1
  refine h v h' tk hk (up r) ⟨I, n, i + 1, P, St, rfl, W, st', by simp at hn; (first | lia | omega), hv, hw, hc, fun j v hj hp => ?_⟩
  obtain ⟨d', e1, r⟩ := hr (j + 1) v (by simpa using hj) (by rw [show i + (j + 1) = i + 1 + j by (first | lia | omega)]; exact hp)
  exact ⟨d', by simpa using e1, up r⟩
theorem ItAt.done {fp wr : List Addr} {it : Value} {Q : Option Value → Shared → Prop} (x : ItAt Y A hid fp wr s.heap it [])
    (h : ∀ h' tk, ButWr wr s.heap h' → Q none { s with heap := h', toks := tk }) : wpAny (model Y.prog Y.w) A (pyNext it) Q E s := by
  obtain ⟨I, n, i, P, St, rfl, W, st, hn, hv, hr⟩ := x
  simp at hn
  subst hn
  exact W.done s Q E st h

theorem rangeSize_nonneg (a b c : Int) : 0 ≤ Builtin.Range.rangeSize a b c := by
  unfold Builtin.Range.rangeSize
  split
  · split
    · have := Int.ediv_nonneg (a := b - a - 1) (b := c) (by (first | lia | omega)) (by (first | lia | omega)); (first | lia | omega)
    · (first | lia | omega)
  · split
    · have := Int.ediv_nonneg (a := a - b - 1) (b := -c) (by (first | lia | omega)) (by (first | lia | omega)); (first | lia | omega)
    · (first | lia | omega)

set_option tactic.hygienic true in
theorem iter_sound (O : SysOk Y) {d : D} {v : Value} {items : List D} {Q : Value → Shared → Prop} (hi : iterD d = some items) (r : Rep (vis s.heap hid) v d) (g : Y.G s.heap) (H : HidOk Y hid s.heap) (hh : A.handled = none)
    (h : ∀ I h' fp, (∀ b o, s.heap.get? b = some o → h'.get? b = some o) → s.heap.get? I = none → (∃ o, h'.get? I = some o ∧ ∃ vs, o.data = .fields vs) → (∀ b ∈ fp, b ≠ I → ∃ o, s.heap.get? b = some o ∧ isDat o = true ∧ hid b = false) →
      ItAt Y A (hide hid I) fp [I] h' (.ref I) items → Q (.ref I) { s with heap := h' }) : wpAny (model Y.prog Y.w) A (pyIter v) Q E s := by
  have fr : s.heap.get? s.heap.objs.size = none := get_size _
  have hP : s.heap.objs.size ≠ Y.P := by
    intro e
    obtain ⟨ps, e1⟩ := O.tab _ g
    rw [← e, fr] at e1; cases e1
  have hw : ∀ b ∈ [s.heap.objs.size], hide hid s.heap.objs.size b = true := by intro b hb; simp at hb; subst hb; exact hide_self _ _
  cases d <;> simp [iterD] at hi
  case bytes b =>
    subst hi
    cases r
    rename_i t
    refine KBw.pyIter_bytes ?_
    refine h _ _ [s.heap.objs.size] (fun _ _ e => Heap.get?_push_of_some _ e) fr ⟨_, Heap.get?_push_size _ rfl, _, rfl⟩ ?_ ⟨_, _, 0, _, _, rfl, KBw.walks hh _ b t, ⟨_, Heap.get?_push_size _ rfl, rfl, rfl⟩, by simp, ?_, hw, ?_, ?_⟩
    · intro b hb hne; simp at hb; exact absurd hb hne
    · intro b hb; simp at hb; subst hb; exact hP
    · rintro i h ⟨o, ho, hcl, hd⟩ b hb
      simp at hb; subst hb
      refine ⟨o, ho, ?_, _, hcl, by decide⟩
      intro vs q t hv
      rw [hd] at hv; cases hv
      simp
    · rintro j v hj ⟨c, u, e, rfl⟩
      simp only [Nat.zero_add] at e
      exact ⟨_, by simp [e], .int _ _⟩
  case list xs =>
    subst hi
    cases r with
    | @list l o vs n _ hl c e r =>
      have hl' := (vis_get hl)
      have hne : l ≠ s.heap.objs.size := Nat.ne_of_lt (Heap.lt_size hl'.1)
      refine wpAny_pyIter_list (rep_isList hl c e) ?_
      refine h _ _ [s.heap.objs.size, l] (fun _ _ e => Heap.get?_push_of_some _ e) fr ⟨_, Heap.get?_push_size _ rfl, _, rfl⟩ ?_ ⟨_, _, 0, _, _, rfl, Walks.list hh _ l hne vs.toArray, ⟨⟨_, Heap.get?_push_size _ rfl, rfl, rfl⟩, (rep_isList hl c e).push _⟩, by simp [r.length], ?_, hw, ?_, ?_⟩
      · intro b hb hne; simp at hb; rcases hb with rfl | rfl
        · exact absurd rfl hne
        · exact ⟨o, hl'.1, by simp [isDat, e], hl'.2⟩
      · intro b hb; simp at hb; rcases hb with rfl | rfl
        · exact hP
        · rintro rfl; rw [H.p] at hl'; cases hl'.2
      · rintro i h ⟨⟨o, ho, hcl, hd⟩, _⟩ b hb
        simp at hb; subst hb
        refine ⟨o, ho, ?_, _, hcl, by decide⟩
        intro vs q t hv
        rw [hd] at hv; cases hv
        simp
      · intro j v hj hp
        simp only [Nat.zero_add] at hp
        obtain ⟨d, e1, r1⟩ := r.get' (by simpa using hp)
        exact ⟨d, e1, (r1.hide_fresh fr).mono fun b o _ e => vis_push _ b o e⟩
  case tuple xs =>
    subst hi
    cases r with
    | @tuple l o vs n _ hl c e r =>
      have hl' := (vis_get hl)
      have hne : l ≠ s.heap.objs.size := Nat.ne_of_lt (Heap.lt_size hl'.1)
      refine wpAny_pyIter_tuple (rep_isTuple hl c e) ?_
      refine h _ _ [s.heap.objs.size, l] (fun _ _ e => Heap.get?_push_of_some _ e) fr ⟨_, Heap.get?_push_size _ rfl, _, rfl⟩ ?_ ⟨_, _, 0, _, _, rfl, Walks.tuple hh _ l hne vs.toArray, ⟨⟨_, Heap.get?_push_size _ rfl, rfl, rfl⟩, (rep_isTuple hl c e).push _⟩, by simp [r.length], ?_, hw, ?_, ?_⟩
      · intro b hb hne; simp at hb; rcases hb with rfl | rfl
        · exact absurd rfl hne
        · exact ⟨o, hl'.1, by simp [isDat, e], hl'.2⟩
      · intro b hb; simp at hb; rcases hb with rfl | rfl
        · exact hP
        · rintro rfl; rw [H.p] at hl'; cases hl'.2
      · rintro i h ⟨⟨o, ho, hcl, hd⟩, _⟩ b hb
        simp at hb; subst hb
        refine ⟨o, ho, ?_, _, hcl, by decide⟩
        intro vs q t hv
        rw [hd] at hv; cases hv
        simp
      · intro j v hj hp
        simp only [Nat.zero_add] at hp
        obtain ⟨d, e1, r1⟩ := r.get' (by simpa using hp)
        exact ⟨d, e1, (r1.hide_fresh fr).mono fun b o _ e => vis_push _ b o e⟩
  case range a b c =>
    obtain ⟨⟨hs, hc⟩, rfl⟩ := hi
    cases r with
    | range hr =>
      have hn : Builtin.Range.rangeSize a b c = ((Builtin.Range.rangeSize a b c).toNat : Int) := by have := rangeSize_nonneg a b c; (first | lia | omega)
      have hlen : (rangeL a b c).length = (Builtin.Range.rangeSize a b c).toNat := by
        unfold rangeL
        rw [if_neg hc]; simp
      refine wpAny_pyIter_range (vis_get hr).1 hs ?_
      refine h _ _ [s.heap.objs.size] (fun _ _ e => Heap.get?_push_of_some _ e) fr ⟨_, Heap.get?_push_size _ rfl, _, rfl⟩ ?_ ⟨_, _, 0, _, _, rfl, Walks.range hh _ a c (Builtin.Range.rangeSize a b c).toNat, ?_, by rw [hlen]; simp, ?_, hw, ?_, ?_⟩
      · intro b hb hne; simp at hb; exact absurd hb hne
      · show IsRangeIter _ _ _ _ _
        rw [← hn]
        simpa using Heap.get?_push_size _ rfl
      · intro b hb; simp at hb; subst hb; exact hP
      · rintro i h ho b hb
        simp at hb; subst hb
        refine ⟨_, ho, ?_, _, rfl, by decide⟩
        intro vs q t hv
        cases hv
        simp [rawInt]
      · rintro j v hj ⟨t, rfl⟩
        simp only [Nat.zero_add]
        refine ⟨_, ?_, .int _ _⟩
        unfold rangeL
        rw [if_neg hc]
        rw [hlen] at hj
        simp [hj]
end
end Mine
end
section
set_option tactic.hygienic false
open PySem PySem.W PySem.Calls PyProof.Rows
namespace Mine

/-- the cells that a comprehension closes over -/
noncomputable def closOf (env : Env) : List (Str × NameKind) → List (Str × Addr) → List (Str × Addr)
  | [], acc => acc
  | (n, kd) :: r, acc => if kd == .free then closOf env r ((n, (env.cells.lookup n).getD 0) :: acc) else closOf env r acc

theorem closOf_loop {env : Env} : ∀ (names : List (Str × NameKind)) (acc : List (Str × Addr)), (∀ p ∈ names, p.2 = .free → ∃ c, env.cells.lookup p.1 = some c) →
    (forIn names acc fun x r => if (x.2 == NameKind.free) = true then do let a ← cellOf env x.1; pure (ForInStep.yield ((x.1, a) :: r)) else pure (ForInStep.yield r) : Sem (List (Str × Addr))) = pure (closOf env names acc)
  | [], _, _ => rfl
  | (n, kd) :: r, acc, h => by
    rw [List.forIn_cons, closOf]
    by_cases hk : (kd == NameKind.free) = true
    · obtain ⟨c, hc⟩ := h _ (.head _) (by simpa using hk)
      simp only [hk, if_true]
      have : cellOf env n = pure c := by unfold cellOf; simp only at hc; rw [hc]
      rw [this, hc]
      exact closOf_loop r _ fun p hp => h p (.tail _ hp)
    · simp only [hk]
      exact closOf_loop r _ fun p hp => h p (.tail _ hp)
theorem closureFor_eq {scope : Scope} {env : Env} (h : ∀ p ∈ scope.names, p.2 = .free → ∃ c, env.cells.lookup p.1 = some c) : closureFor scope env = pure (closOf env scope.names []) := by
  have := closOf_loop (env := env) scope.names [] h
  show ((forIn scope.names [] fun x r => if (x.2 == NameKind.free) = true then do let a ← cellOf env x.1; pure (ForInStep.yield ((x.1, a) :: r)) else pure (ForInStep.yield r) : Sem (List (Str × Addr))) >>= fun cs => pure cs) = _
  rw [this]
  rfl
theorem closOf_acc {env : Env} {x : Str} {c : Addr} (hx : env.cells.lookup x = some c) : ∀ (names : List (Str × NameKind)) (acc : List (Str × Addr)), (acc.lookup x = some c ∨ (acc.lookup x = none ∧ names.lookup x = some .free)) → (closOf env names acc).lookup x = some c
  | [], acc, h => by
    rcases h with h | ⟨_, h⟩
    · exact h
    · cases h
  | (n, kd) :: r, acc, h => by
    rw [closOf]
    by_cases hn : (x == n) = true
    · have e : x = n := by simpa using hn
      subst e
      split
      · refine closOf_acc hx r _ (.inl ?_)
        simp [hx]
      · rename_i hk
        refine closOf_acc hx r _ ?_
        rcases h with h | ⟨_, h⟩
        · exact .inl h
        · simp at h; subst h; exact absurd rfl hk
    · have hn' : (x == n) = false := by simpa using hn
      split
      · refine closOf_acc hx r _ ?_
        simp only [List.lookup_cons, hn']
        rcases h with h | ⟨h1, h2⟩
        · exact .inl h
        · simp only [List.lookup_cons, hn'] at h2; exact .inr ⟨h1, h2⟩
      · refine closOf_acc hx r _ ?_
        rcases h with h | ⟨h1, h2⟩
        · exact .inl h
        · simp only [List.lookup_cons, hn'] at h2; exact .inr ⟨h1, h2⟩

theorem compTurn_leaf {elt target iter : Expr} {ifs : List Expr} {gens : List Comprehension} {depth : Nat} {scope : Scope} {pos : Pos} {it acc : Value} {env : Env} (hg : gens[depth]? = some ⟨target, iter, ifs, 0⟩) (hn : gens[depth + 1]? = none) :
    compTurn (.ListComp elt gens scope pos) depth it acc env = (do
      standAt iter.pos
      match ← pyNext it with
      | none => pure (.done .next)
      | some v =>
        letOwnedTupleGo target it v
        assign target env v
        let mut ok := true
        for c in ifs do
          if ok then ok ← isTrue c env (eval c env)
        if ok then
          (do let _ ← call (.builtin "list.append") [acc, ← eval elt env])
        again (.compLoop (.ListComp elt gens scope pos) depth it acc env)) := by
  unfold compTurn
  simp only [hg, hn]
  rfl

section
variable {prog : Program} {w : World} {A : Around} {R : Result → Shared → Prop} {s : Shared}
theorem leafLoop {elt target iter : Expr} {ifs : List Expr} {gens : List Comprehension} {depth : Nat} {scope : Scope} {pos : Pos} {it acc : Value} {env : Env} (hg : gens[depth]? = some ⟨target, iter, ifs, 0⟩) (hn : gens[depth + 1]? = none) (I : Nat → Shared → Prop)
    (turn : ∀ n s, I n s → wpAny (model prog w) A (pyNext it) (fun r s₁ => match r with
      | none => R (.ok .next) s₁
      | some v => wpAny (model prog w) A (assign target env v) (fun _ s₂ =>
          wpAny (model prog w) A (forIn ifs true fun c r => if r = true then do let ok ← isTrue c env (eval c env); pure (ForInStep.yield ok) else pure (ForInStep.yield r)) (fun ok s₃ =>
            if ok = true then wpAny (model prog w) A (eval elt env) (fun x s₄ =>
              wpAny (model prog w) A (call (.builtin "list.append") [acc, x]) (fun _ s₅ => ∃ m, m < n ∧ I m s₅) (notedBy (model prog w) A env fun e s' => R (.error e) s') s₄) (notedBy (model prog w) A env fun e s' => R (.error e) s') s₃
            else ∃ m, m < n ∧ I m s₃) (notedBy (model prog w) A env fun e s' => R (.error e) s') s₂) (notedBy (model prog w) A env fun e s' => R (.error e) s') s₁) (notedBy (model prog w) A env fun e s' => R (.error e) s') s)
    (n : Nat) (h : I n s) (ht : ∀ v, letOwnedTupleGo target it v = pure ()) :
    codeAny (model prog w) A (.compLoop (.ListComp elt gens scope pos) depth it acc env) R s := by
  refine codeAny_loop rfl I (fun n s hI => ?_) n h
  show wpAny _ A ((compTurn (.ListComp elt gens scope pos) depth it acc env).onRaise (fun x => do noteFrame x env; theTreesLotGoes x)) _ _ s
  refine wpAny_noted ?_
  rw [compTurn_leaf hg hn]
  refine wpAny_bind (wpAny_standAt (wpAny_bind (wpAny_mono (turn n s hI) (fun r s₁ h₁ => ?_) fun _ _ h' => h')))
  cases r with
  | none => exact wpAny_pure h₁
  | some v =>
    refine wpAny_bind (wpAny_of_eq (ht v) ?_)
    refine wpAny_bind (wpAny_mono h₁ (fun _ s₂ h₂ => wpAny_bind (wpAny_mono h₂ (fun ok s₃ h₃ => ?_) fun _ _ h' => h')) fun _ _ h' => h')
    cases ok with
    | false => exact wpAny_pure ⟨rfl, h₃⟩
    | true =>
      exact wpAny_bind (wpAny_bind (wpAny_mono h₃ (fun x s₄ h₄ => wpAny_bind (wpAny_mono h₄ (fun _ s₅ h₅ => wpAny_pure (wpAny_pure ⟨rfl, h₅⟩)) fun _ _ h' => h')) fun _ _ h' => h'))
end
end Mine
end
section
set_option tactic.hygienic false
open PySem PySem.W PySem.Calls PyProof.Rows
namespace Mine

section
variable {Y : Sys} {T : Tab} {k : Nat} {A : Around} {E : Value → Shared → Prop} {s : Shared} {hid : Addr → Bool} {env : Env} {sc : Scope} {ρ : List (Str × D)}

theorem lookup_setV {x y : Str} {d : D} : (setV x d ρ).lookup y = if y == x then some d else ρ.lookup y := by
  unfold setV
  rw [List.lookup_cons]
  split
  · rename_i h; rw [h]; rfl
  · rename_i h
    rw [h]
    simp only [Bool.false_eq_true, if_false]
    induction ρ with
    | nil => rfl
    | cons p r ih =>
      rw [List.filter_cons]
      by_cases hp : (p.1 == x) = true
      · have e : p.1 = x := by simpa using hp
        simp only [hp, Bool.not_true, Bool.false_eq_true, if_false]
        obtain ⟨p1, p2⟩ := p
        simp only at e; subst e
        rw [ih, List.lookup_cons, h]
      · have hp' : (p.1 == x) = false := by simpa using hp
        simp only [hp', Bool.not_false, if_true]
        obtain ⟨p1, p2⟩ := p
        rw [List.lookup_cons, List.lookup_cons]
        split
        · rfl
        · exact ih

/-- what a change at one object that is no data leaves of the data -/
theorem ns_notCode {h : Heap} {a : Addr} {m : Str → Option Value} (n : h.Ns a m) : ∀ o, h.get? a = some o → notCode o := fun o e' vs q t hv => by
  obtain ⟨o', es, ep, e, d, _⟩ := n
  rw [e'] at e; cases e
  rw [d] at hv; cases hv
theorem cell_notCode {h : Heap} {a : Addr} {m : Option Value} (n : h.IsCell a m) : ∀ o, h.get? a = some o → notCode o := fun o e' vs q t hv => by
  obtain ⟨o', e, d⟩ := n
  rw [e'] at e; cases e
  rw [d] at hv; cases hv
theorem list_notCode {h : Heap} {a : Addr} {m : Array Value} (n : h.IsList a m) : ∀ o, h.get? a = some o → notCode o := fun o e' vs q t hv => by
  obtain ⟨o', e, _, _, d⟩ := n
  rw [e'] at e; cases e
  rw [d] at hv; cases hv
theorem list_notP (O : SysOk Y) {h : Heap} {a : Addr} {m : Array Value} (g : Y.G h) (n : h.IsList a m) : a ≠ Y.P := by
  intro e
  obtain ⟨ps, e1⟩ := O.tab h g
  obtain ⟨o', e2, _, _, d⟩ := n
  rw [e, e1] at e2; cases e2; cases d
theorem ns_isDat {h : Heap} {a : Addr} {m : Str → Option Value} (n : h.Ns a m) : ∀ o, h.get? a = some o → isDat o = false := fun o e' => by
  obtain ⟨o', es, ep, e, d, _⟩ := n
  rw [e'] at e; cases e
  simp [isDat, d]
theorem cell_isDat {h : Heap} {a : Addr} {m : Option Value} (n : h.IsCell a m) : ∀ o, h.get? a = some o → isDat o = false := fun o e' => by
  obtain ⟨o', e, d⟩ := n
  rw [e'] at e; cases e
  simp [isDat, d]
theorem ns_unique {h : Heap} {a : Addr} {m m' : Str → Option Value} (n : h.Ns a m) (n' : h.Ns a m') : m = m' := by
  obtain ⟨o, es, ep, e, d, _, f⟩ := n
  obtain ⟨o', es', ep', e', d', _, f'⟩ := n'
  rw [e] at e'; cases e'
  rw [d] at d'; cases d'
  funext x
  rw [← f x, ← f' x]

/-- data that are lists, tuples, ranges stay where no such object is changed; an object with a dict's data is none in a view -/
theorem rep_butData {g g' : View} (hk : ∀ b o, (∀ es n, o.data ≠ .dict es n) → (∀ c, o.data ≠ .cell c) → g b = some o → g' b = some o) : (∀ {v : Value} {d : D}, Rep g v d → Rep g' v d) ∧ ∀ {vs : List Value} {ds : List D}, RepL g vs ds → RepL g' vs ds :=
  rep_lift (fun h e => hk _ _ (fun _ _ q => by rw [e] at q; cases q) (fun _ q => by rw [e] at q; cases q) h) fun h e => hk _ _ (fun _ _ q => by rw [e] at q; cases q) (fun _ q => by rw [e] at q; cases q) h
theorem Rep.butData {g g' : View} (hk : ∀ b o, (∀ es n, o.data ≠ .dict es n) → (∀ c, o.data ≠ .cell c) → g b = some o → g' b = some o) {v : Value} {d : D} (r : Rep g v d) : Rep g' v d := (rep_butData hk).1 r
theorem RepL.butData {g g' : View} (hk : ∀ b o, (∀ es n, o.data ≠ .dict es n) → (∀ c, o.data ≠ .cell c) → g b = some o → g' b = some o) {v : List Value} {d : List D} (r : RepL g v d) : RepL g' v d := (rep_butData hk).2 r
theorem rep_ns {h h' : Heap} {a : Addr} {m : Str → Option Value} {v : Value} {d : D} (n : h.Ns a m) (hk : ∀ b o, b ≠ a → h.get? b = some o → h'.get? b = some o) (r : Rep (vis h hid) v d) : Rep (vis h' hid) v d :=
  r.butData fun b o h1 h2 e => by
    obtain ⟨e1, e2⟩ := vis_get e
    refine vis_of (hk b o ?_ e1) e2
    rintro rfl
    obtain ⟨o', es, ep, e', d', _⟩ := n
    rw [e1] at e'; cases e'; exact h1 _ _ d'
theorem repL_ns {h h' : Heap} {a : Addr} {m : Str → Option Value} {v : List Value} {d : List D} (n : h.Ns a m) (hk : ∀ b o, b ≠ a → h.get? b = some o → h'.get? b = some o) (r : RepL (vis h hid) v d) : RepL (vis h' hid) v d :=
  r.butData fun b o h1 h2 e => by
    obtain ⟨e1, e2⟩ := vis_get e
    refine vis_of (hk b o ?_ e1) e2
    rintro rfl
    obtain ⟨o', es, ep, e', d', _⟩ := n
    rw [e1] at e'; cases e'; exact h1 _ _ d'
theorem ns_ne_cell {h : Heap} {a c : Addr} {m : Str → Option Value} {v : Option Value} (n : h.Ns a m) (x : h.IsCell c v) : c ≠ a := by
  rintro rfl
  obtain ⟨o, es, ep, e, d, _⟩ := n
  obtain ⟨o', e', d'⟩ := x
  rw [e] at e'; cases e'; rw [d] at d'; cases d'

theorem EnvOk.setLocal {h h' : Heap} {x : Str} {m : Str → Option Value} {v : Value} {d : D} (V : EnvOk Y sc env h hid ρ) (hx : env.kindOf x = some .local) (hd : (x == ("__debug__" : Str)) = false) (n : h.Ns env.locals m)
    (n' : h'.Ns env.locals (fun y => if y = x then some v else m y)) (hs : Heap.SameBut env.locals h h') (r : Rep (vis h hid) v d) : EnvOk Y sc env h' hid (setV x d ρ) := by
  have hk : ∀ b o, b ≠ env.locals → h.get? b = some o → h'.get? b = some o := fun b o hb e => (hs.2 b hb).trans e
  refine ⟨V.kind, V.sce, V.glob, V.bui, V.baseL, V.cells, fun z c e => (let ⟨v, n2⟩ := V.cellAt z c e; let ⟨o, e3, d3⟩ := id n2; ⟨v, o, hk c o (ns_ne_cell n n2) e3, d3⟩), fun y e he => ?_⟩
  rw [lookup_setV] at he
  by_cases hy : (y == x) = true
  · have e1 : y = x := by simpa using hy
    subst e1
    simp at he; subst he
    exact ⟨hd, v, .inl ⟨hx, _, n', by simp⟩, rep_ns n hk r⟩
  · have hy' : (y == x) = false := by simpa using hy
    simp only [hy', Bool.false_eq_true, if_false] at he
    obtain ⟨a, w, hw, rw'⟩ := V.vars y e he
    refine ⟨a, w, ?_, rep_ns n hk rw'⟩
    rcases hw with ⟨q, m', n2, hm⟩ | ⟨q, hc, c, e2, n2⟩
    · refine .inl ⟨q, _, n', ?_⟩
      have : m y = some w := by rw [ns_unique n n2]; exact hm
      rw [if_neg (by rintro rfl; simp at hy')]
      exact this
    · obtain ⟨o, e3, d3⟩ := id n2
      exact .inr ⟨q, hc, c, e2, o, hk c o (ns_ne_cell n n2) e3, d3⟩
end
end Mine
end
section
set_option tactic.hygienic false
open PySem PySem.W PySem.Calls PyProof.Rows
namespace Mine

section
variable {Y : Sys} {T : Tab} {k : Nat} {A : Around} {E : Value → Shared → Prop} {s : Shared} {hid : Addr → Bool} {env : Env} {sc : Scope} {ρ : List (Str × D)}

theorem EnvOk.keep {h h' : Heap} (V : EnvOk Y sc env h hid ρ) (hL : ∀ o, h.get? env.locals = some o → h'.get? env.locals = some o) (hc : ∀ y c o, env.cells.lookup y = some c → h.get? c = some o → h'.get? c = some o)
    (hr : ∀ b o, hid b = false → h.get? b = some o → isDat o = true → h'.get? b = some o) : EnvOk Y sc env h' hid ρ :=
  ⟨V.kind, V.sce, V.glob, V.bui, V.baseL, V.cells, fun z c e => (let ⟨v, o, e3, d3⟩ := V.cellAt z c e; ⟨v, o, hc z c o e e3, d3⟩), fun x d e => by
    obtain ⟨a, v, r, p⟩ := V.vars x d e
    refine ⟨a, v, ?_, p.mono fun b o ho e => by obtain ⟨e1, e2⟩ := vis_get e; exact vis_of (hr b o e2 e1 ho) e2⟩
    rcases r with ⟨q, m, n, hm⟩ | ⟨q, hd, c, e2, o, e3, e4⟩
    · exact .inl ⟨q, m, n.at' hL, hm⟩
    · exact .inr ⟨q, hd, c, e2, o, hc x c o e2 e3, e4⟩⟩

theorem ItAt.wr {fp wr : List Addr} {h : Heap} {it : Value} {rest : List D} (x : ItAt Y A hid fp wr h it rest) : ∀ b ∈ wr, hid b = true ∧ b ≠ Y.P ∧ ∃ o, h.get? b = some o ∧ notCode o := by
  obtain ⟨I, n, i, P, St, e, W, st, hn, hv, hw, hc, hr⟩ := x
  exact fun b hb => ⟨hw b hb, hv b (W.sub b hb), let ⟨o, e, q, _⟩ := hc i h st b hb; ⟨o, e, q⟩⟩
theorem ItAt.go {fp : List Addr} {I : Addr} {h : Heap} {rest : List D} (x : ItAt Y A hid fp [I] h (.ref I) rest) : ∃ o, h.get? I = some o ∧ goOk o := by
  obtain ⟨I', n, i, P, St, e, W, st, hn, hv, hw, hc, hr⟩ := x
  obtain ⟨o, e, _, q⟩ := hc i h st I (.head _)
  exact ⟨o, e, q⟩

/-- a sound evaluator -/
structure Sn (Y : Sys) (k : Nat) (sc : Scope) (ev : List (Str × D) → Expr → (D → Prop) → Prop) (tv : List (Str × D) → Expr → (Bool → Prop) → Prop) : Prop where
  e : ∀ ρ, SndE Y k sc ρ (ev ρ)
  t : ∀ ρ (e : Expr) (Q : Bool → Prop) (A : Around) (s : Shared) (env : Env) (hid : Addr → Bool) (E : Value → Shared → Prop),
    tv ρ e Q → EnvOk Y sc env s.heap hid ρ → Y.G s.heap → HidOk Y hid s.heap → Room k A → wpAny (model Y.prog Y.w) A (isTrue e env (eval e env)) (PostB Y s Q) E s

theorem tests_sound {ev : List (Str × D) → Expr → (D → Prop) → Prop} {tv : List (Str × D) → Expr → (Bool → Prop) → Prop} (S : Sn Y k sc ev tv) {ifs : List Expr} {Q : Bool → Prop}
    (p : testsP (tv ρ) ifs Q) (V : EnvOk Y sc env s.heap hid ρ) (g : Y.G s.heap) (H : HidOk Y hid s.heap) (R : Room k A) :
    wpAny (model Y.prog Y.w) A (forIn ifs true fun c r => if r = true then do let ok ← isTrue c env (eval c env); pure (ForInStep.yield ok) else pure (ForInStep.yield r)) (PostB Y s Q) E s := by
  rcases ifs with _ | ⟨c, _ | ⟨_, _⟩⟩
  · exact wpAny_tests_nil ⟨Up.refl g, p⟩
  · exact wpAny_tests_one (S.t ρ c Q A s env hid E p V g H R)
  · exact p.elim

/-- the state of a comprehension's loop -/
structure CSt (Y : Sys) (A : Around) (sc : Scope) (cenv : Env) (hid : Addr → Bool) (D : Addr) (fp wr : List Addr) (it : Value) (h : Heap) (ρ : List (Str × Mine.D)) (acc items : List Mine.D) : Prop where
  V : EnvOk Y sc cenv h hid ρ
  g : Y.G h
  H : HidOk Y hid h
  acc : ∃ vs : List Value, h.PlainList D vs.toArray ∧ RepL (vis h hid) vs acc
  it : ItAt Y A hid fp wr h it items
  ns : ∃ m, h.Ns cenv.locals m

/-- what stands apart from it -/
structure CAp (Y : Sys) (cenv : Env) (hid : Addr → Bool) (D : Addr) (fp wr : List Addr) (x : Str) : Prop where
  hx : cenv.kindOf x = some .local
  hxd : (x == ("__debug__" : Str)) = false
  Dw : D ∉ wr
  Df : D ∉ fp
  Cw : cenv.locals ∉ wr
  Cf : cenv.locals ∉ fp
  cw : ∀ y c, cenv.cells.lookup y = some c → c ∉ wr
  cD : ∀ y c, cenv.cells.lookup y = some c → c ≠ D
  Dh : hid D = true
  Db : Y.base.get? D = none
  wb : ∀ b ∈ wr, Y.base.get? b = none

noncomputable def KpX (P : Addr) (X : List Addr) (h h' : Heap) : Prop := ∀ b o, b ≠ P → b ∉ X → h.get? b = some o → h'.get? b = some o
theorem KpX.refl {P : Addr} {X : List Addr} {h : Heap} : KpX P X h h := fun _ _ _ _ e => e
theorem KpX.trans {P : Addr} {X : List Addr} {h h' h'' : Heap} (a : KpX P X h h') (b : KpX P X h' h'') : KpX P X h h'' := fun x o n m e => b x o n m (a x o n m e)
theorem KpX.of {P : Addr} {X : List Addr} {h h' : Heap} (a : Kp P h h') : KpX P X h h' := fun x o n _ e => a x o n e

theorem comp1_loop (O : SysOk Y) {ev : List (Str × Mine.D) → Expr → (Mine.D → Prop) → Prop} {tv : List (Str × Mine.D) → Expr → (Bool → Prop) → Prop} (S : Sn Y k sc ev tv) {cenv : Env} {D : Addr} {fp wr : List Addr} {it : Value} {x : Str}
    {elt iter : Expr} {px : Pos} {ifs : List Expr} {gens : List Comprehension} {depth : Nat} {scope : Scope} {pos : Pos} {R : Result → Shared → Prop} (ap : CAp Y cenv hid D fp wr x) (hg : gens[depth]? = some ⟨.Name x px, iter, ifs, 0⟩) (hn : gens[depth + 1]? = none)
    (Rm : Room k A) {items : List Mine.D} {ρ : List (Str × Mine.D)} {acc : List Mine.D} {Q : List (Str × Mine.D) → List Mine.D → Prop} (p : comp1 x ifs elt ev tv items ρ acc Q) (st : CSt Y A sc cenv hid D fp wr it s.heap ρ acc items) (hz : acc.length + items.length ≤ sizeLine)
    (hR : ∀ h' tk ρ' acc', KpX Y.P (cenv.locals :: D :: wr) s.heap h' → EnvOk Y sc cenv h' hid ρ' → Y.G h' → (∃ vs : List Value, h'.PlainList D vs.toArray ∧ RepL (vis h' hid) vs acc') → (∃ m, h'.Ns cenv.locals m) → Q ρ' acc' → acc'.length ≤ acc.length + items.length →
      R (.ok .next) { s with heap := h', toks := tk }) :
    codeAny (model Y.prog Y.w) A (.compLoop (.ListComp elt gens scope pos) depth it (.ref D) cenv) R s := by
  refine leafLoop hg hn (fun n s' => ∃ items' ρ' acc' h' tk, n = items'.length ∧ s' = { s with heap := h', toks := tk } ∧ comp1 x ifs elt ev tv items' ρ' acc' Q ∧ CSt Y A sc cenv hid D fp wr it h' ρ' acc' items' ∧ acc'.length + items'.length ≤ acc.length + items.length ∧ KpX Y.P (cenv.locals :: D :: wr) s.heap h') ?_ items.length
    ⟨items, ρ, acc, s.heap, s.toks, rfl, rfl, p, st, Nat.le_refl _, KpX.refl⟩ (fun _ => rfl)
  rintro n s' ⟨items', ρ', acc', h', tk, rfl, rfl, p', st', hz', kx⟩
  have hk : (cenv.scope.kind == .class || (cenv.scope.kind == .module && cenv.locals != cenv.globals)) = false := by rw [st'.V.kind]; rfl
  have wrs := st'.it.wr
  cases items' with
  | nil =>
    refine st'.it.done fun h1 tk1 bw => ?_
    have kb : ∀ b o, b ∉ wr → h'.get? b = some o → h1.get? b = some o := bw
    have hid' : ∀ b, hid b = false → b ∉ wr := fun b hb hm => by rw [(wrs b hm).1] at hb; cases hb
    obtain ⟨vs, pl, rl⟩ := st'.acc
    obtain ⟨m, nm⟩ := st'.ns
    refine hR h1 tk1 ρ' acc' (kx.trans fun b o _ hb e => kb b o (fun hm => hb (.tail _ (.tail _ hm))) e) (st'.V.keep (fun o e => kb _ o ap.Cw e) (fun y c o hc e => kb c o (ap.cw y c hc) e) fun b o hb e _ => kb b o (hid' b hb) e)
      (O.chg h' h1 wr st'.g (fun a ha => ⟨ap.wb a ha, (wrs a ha).2.1, fun o e => by obtain ⟨o', e', q⟩ := (wrs a ha).2.2; rw [e] at e'; cases e'; exact q⟩) kb)
      ⟨vs, pl.at fun o e => kb _ o ap.Dw e, rl.mono fun b o _ e => by obtain ⟨e1, e2⟩ := vis_get e; exact vis_of (kb b o (hid' b e2) e1) e2⟩ ⟨m, nm.at' fun o e => kb _ o ap.Cw e⟩ p' (by simp at hz'; (first | lia | omega))
  | cons d items' =>
    refine st'.it.next fun v h1 tk1 bw rv it1 => ?_
    have kb : ∀ b o, b ∉ wr → h'.get? b = some o → h1.get? b = some o := bw
    have hid' : ∀ b, hid b = false → b ∉ wr := fun b hb hm => by rw [(wrs b hm).1] at hb; cases hb
    obtain ⟨vs, pl, rl⟩ := st'.acc
    obtain ⟨m, nm⟩ := st'.ns
    have V1 := st'.V.keep (fun o e => kb _ o ap.Cw e) (fun y c o hc e => kb c o (ap.cw y c hc) e) fun b o hb e _ => kb b o (hid' b hb) e
    have g1 := O.chg h' h1 wr st'.g (fun a ha => ⟨ap.wb a ha, (wrs a ha).2.1, fun o e => by obtain ⟨o', e', q⟩ := (wrs a ha).2.2; rw [e] at e'; cases e'; exact q⟩) kb
    have pl1 := pl.at fun o e => kb _ o ap.Dw e
    have rl1 : RepL (vis h1 hid) vs acc' := rl.mono fun b o _ e => by obtain ⟨e1, e2⟩ := vis_get e; exact vis_of (kb b o (hid' b e2) e1) e2
    have n1 := nm.at' fun o e => kb _ o ap.Cw e
    have H1 : HidOk Y hid h1 := ⟨st'.H.p, fun b hb => by
      by_cases hm : b ∈ wr
      · obtain ⟨o, e, _⟩ := (it1.wr b hm).2.2; exact ⟨o, e⟩
      · obtain ⟨o, e⟩ := st'.H.live b hb; exact ⟨o, kb b o hm e⟩, st'.H.cst⟩
    have kx1 : KpX Y.P (cenv.locals :: D :: wr) s.heap h1 := kx.trans fun b o _ hb e => kb b o (fun hm => hb (.tail _ (.tail _ hm))) e
    refine wpAny_assign_Name (wpAny_storeName_local ap.hx n1 (fun h2 n2 hs2 => ?_) hk)
    have k2 : ∀ b o, b ≠ cenv.locals → h1.get? b = some o → h2.get? b = some o := fun b o hb e => (hs2.2 b hb).trans e
    have V2 := V1.setLocal ap.hx ap.hxd n1 n2 hs2 rv
    have g2 := O.chg h1 h2 [cenv.locals] g1 (fun a ha => by simp at ha; subst ha; exact ⟨st'.V.baseL, ns_notP O g1 n1, ns_notCode n1⟩) fun b o hb e => k2 b o (by simpa using hb) e
    have DC : D ≠ cenv.locals := by
      rintro rfl
      obtain ⟨k1, e1⟩ := pl1
      obtain ⟨o, es, ep, e, d', _⟩ := n1
      rw [e1] at e; cases e; cases d'
    have pl2 := pl1.at fun o e => k2 D o DC e
    have rl2 := repL_ns n1 k2 rl1
    have it2 : ItAt Y A hid fp wr h2 it items' := it1.frame (fun b hb o e => k2 b o (by rintro rfl; exact ap.Cf hb) e) fun b o hb hd e => k2 b o (by
      rintro rfl
      rw [ns_isDat n1 o e] at hd; cases hd) e
    have H2 : HidOk Y hid h2 := ⟨H1.p, fun b hb => by
      by_cases hm : b = cenv.locals
      · subst hm; obtain ⟨o, _, _, e, _⟩ := n2; exact ⟨o, e⟩
      · obtain ⟨o, e⟩ := H1.live b hb; exact ⟨o, k2 b o hm e⟩, H1.cst⟩
    have kx2 : KpX Y.P (cenv.locals :: D :: wr) s.heap h2 := kx1.trans fun b o _ hb e => k2 b o (fun hm => hb (by rw [hm]; exact .head _)) e
    simp only [comp1] at p'
    refine wpAny_mono (tests_sound S p' V2 g2 H2 Rm) (fun ok s3 q => ?_) fun _ _ x => x
    obtain ⟨u3, q⟩ := q
    obtain ⟨h3, tk3, rfl, kp3, g3⟩ := id u3
    have st3 : ∀ {h4 : Heap}, Kp Y.P h2 h4 → Y.G h4 → CSt Y A sc cenv hid D fp wr it h4 (setV x d ρ') acc' items' := fun kp g4 =>
      ⟨V2.up O g2 kp H2.p, g4, H2.up kp (let ⟨_, e⟩ := O.tab _ g4; ⟨_, e⟩), ⟨vs, pl2.at fun o e => kp D o (list_notP O g2 pl2.isList) e, rl2.up H2.p kp⟩, it2.up H2.p kp, ⟨_, ns_kp O g2 kp n2⟩⟩
    cases ok with
    | false =>
      simp only [Bool.false_eq_true, if_false]
      exact ⟨items'.length, by simp, items', _, acc', h3, tk3, rfl, rfl, q, st3 kp3 g3, by simp at hz' ⊢; (first | lia | omega), kx2.trans (KpX.of kp3)⟩
    | true =>
      simp only [if_true]
      have c3 := st3 kp3 g3
      refine bindP (S.e _ elt _ A _ cenv hid _ q c3.V c3.g c3.H Rm) fun y s4 dy u4 ry q4 => ?_
      obtain ⟨h4, tk4, rfl, kp4, g4⟩ := id u4
      have c4 := st3 (kp3.trans kp4) g4
      obtain ⟨vs4, pl4, rl4⟩ := c4.acc
      have hlen : vs4.toArray.size ≤ sizeLine := by simp [rl4.length]; simp at hz'; (first | lia | omega)
      refine wpAny_list_append_plain (hsz := hlen) pl4 fun h5 pl5 hs5 => ?_
      have k5 : ∀ b o, b ≠ D → h4.get? b = some o → h5.get? b = some o := fun b o hb e => (hs5.2 b hb).trans e
      obtain ⟨m4, n4⟩ := c4.ns
      have hiD : ∀ b, hid b = false → b ≠ D := fun b hb e => by rw [e, ap.Dh] at hb; cases hb
      have DC4 : cenv.locals ≠ D := Ne.symm DC
      refine ⟨items'.length, by simp, items', _, acc' ++ [dy], h5, tk4, rfl, rfl, q4, ?_, by simp at hz' ⊢; (first | lia | omega), (kx2.trans (KpX.of (kp3.trans kp4))).trans fun b o _ hb e => k5 b o (fun hm => hb (by rw [hm]; exact .tail _ (.head _))) e⟩
      refine ⟨c4.V.keep (fun o e => k5 _ o DC4 e) (fun y c o hc e => ?_) (fun b o hb e _ => k5 b o (hiD b hb) e), O.chg h4 h5 [D] c4.g (fun a ha => ?_) (fun b o hb e => k5 b o (by simpa using hb) e), ?_, ?_, ?_, ⟨m4, n4.at' fun o e => k5 _ o DC4 e⟩⟩
      · exact k5 c o (ap.cD y c hc) e
      · simp at ha; subst ha
        exact ⟨ap.Db, list_notP O c4.g pl4.isList, list_notCode pl4.isList⟩
      · exact ⟨c4.H.p, fun b hb => by
          by_cases hm : b = D
          · subst hm; obtain ⟨k1, e2⟩ := pl5; exact ⟨_, e2⟩
          · obtain ⟨o, e⟩ := c4.H.live b hb; exact ⟨o, k5 b o hm e⟩, c4.H.cst⟩
      · refine ⟨vs4 ++ [y], by simpa using pl5, ?_⟩
        have up5 : ∀ {v : Value} {d : Mine.D}, Rep (vis h4 hid) v d → Rep (vis h5 hid) v d := fun r => r.mono fun b o _ e => by obtain ⟨e1, e2⟩ := vis_get e; exact vis_of (k5 b o (hiD b e2) e1) e2
        exact RepL.snoc (rl4.mono fun b o _ e => by obtain ⟨e1, e2⟩ := vis_get e; exact vis_of (k5 b o (hiD b e2) e1) e2) (up5 ry)
      · exact c4.it.frame (fun b hb o e => k5 b o (by rintro rfl; exact ap.Df hb) e) fun b o hb _ e => k5 b o (hiD b hb) e
end
end Mine
end
section
set_option tactic.hygienic false
open PySem PySem.W PySem.Calls PyProof.Rows
namespace Mine

theorem okSet_fold {e : Expr} (h : okSet e = true) (env : Env) (x : Value) : foldedSetIterable e env x = pure x := by
  cases e <;> first | rfl | cases h

theorem mem_of_lookup {β : Type} : ∀ {l : List (Str × β)} {x : Str} {b : β}, l.lookup x = some b → (x, b) ∈ l
  | [], _, _, h => by cases h
  | (y, c) :: r, x, b, h => by
    rw [List.lookup_cons] at h
    split at h
    · rename_i e
      have : x = y := by simpa using e
      subst this
      cases h; exact .head _
    · exact .tail _ (mem_of_lookup h)
theorem lookup_filter {β : Type} {p : Str → Bool} {x : Str} : ∀ {l : List (Str × β)}, (l.filter fun q => p q.1).lookup x = if p x then l.lookup x else none
  | [] => by simp
  | (y, c) :: r => by
    rw [List.filter_cons]
    by_cases hp : p y = true
    · simp only [hp, if_true, List.lookup_cons]
      split
      · rename_i e
        have : x = y := by simpa using e
        subst this
        simp [hp]
      · exact lookup_filter
    · have hp' : p y = false := by simpa using hp
      simp only [hp', Bool.false_eq_true, if_false, List.lookup_cons]
      rw [show (List.filter (fun q : Str × β => p q.1) r).lookup x = _ from lookup_filter]
      split
      · rename_i hx
        split
        · rename_i e
          have : x = y := by simpa using e
          subst this
          exact absurd hx hp
        · rfl
      · rfl

theorem closOf_from {env : Env} : ∀ (names : List (Str × NameKind)) (acc : List (Str × Addr)), (∀ p ∈ names, p.2 = .free → ∃ c, env.cells.lookup p.1 = some c) → (∀ q ∈ acc, ∃ z, env.cells.lookup z = some q.2) → ∀ q ∈ closOf env names acc, ∃ z, env.cells.lookup z = some q.2
  | [], _, _, h => h
  | (n, kd) :: r, acc, hn, h => by
    rw [closOf]
    split
    · rename_i hk
      refine closOf_from r _ (fun p hp => hn p (.tail _ hp)) fun q hq => ?_
      rcases List.mem_cons.mp hq with rfl | hq
      · obtain ⟨c, hc⟩ := hn _ (.head _) (by simpa using hk)
        exact ⟨n, by simp only at hc; rw [hc]; rfl⟩
      · exact h q hq
    · exact closOf_from r _ (fun p hp => hn p (.tail _ hp)) h

section
variable {Y : Sys} {T : Tab} {k : Nat} {A : Around} {E : Value → Shared → Prop} {s : Shared} {hid : Addr → Bool} {env : Env} {sc : Scope} {ρ : List (Str × D)}

structure COk (scope sc : Scope) (xs : List Str) : Prop where
  kind : scope.kind = .function
  nocell : ∀ p ∈ scope.names, p.2 ≠ .cell
  names : ∀ p ∈ scope.names, p.2 = .local → scope.names.lookup p.1 = some .local
  vars : ∀ x ∈ xs, scope.names.lookup x = some .local ∧ (x == ("__debug__" : Str)) = false
  free : ∀ p ∈ scope.names, p.2 = .free → sc.names.lookup p.1 = some .cell
theorem compOk_of {scope sc : Scope} {xs : List Str} (h : compOk scope sc xs = true) : COk scope sc xs := by
  unfold compOk at h
  simp only [Bool.and_eq_true, List.all_eq_true, bne_iff_ne, ne_eq, Bool.or_eq_true, beq_iff_eq, Bool.not_eq_true'] at h
  obtain ⟨⟨⟨⟨h1, h2⟩, h3⟩, h4⟩, h5⟩ := h
  refine ⟨h1, h2, fun p hp e => ?_, fun x hx => ⟨(h4 x hx).1, (h4 x hx).2⟩, fun p hp e => ?_⟩
  · rcases h3 p hp with q | q
    · exact absurd e q
    · exact q
  · rcases h5 p hp with q | q
    · exact absurd e q
    · exact q

theorem relabel_eq {scope : Scope} (h : env.scope = sc) : relabel scope env = relabelS scope sc := by
  subst h; rfl
theorem lookup_relabelS {scope : Scope} (hk : sc.kind = .function) (x : Str) : (relabelS scope sc).names.lookup x = (scope.names.lookup x).map fun kd => if kd == .free && sc.names.lookup x == some .cell then .cell else kd := by
  unfold relabelS
  simp only [hk, beq_self_eq_true, Bool.and_true]
  have hf : (fun x : Str × NameKind => match x with | (n, k) => if (k == NameKind.free && List.lookup n sc.names == some NameKind.cell) = true then (n, NameKind.cell) else (n, k)) = fun p => (p.1, if (p.2 == NameKind.free && List.lookup p.1 sc.names == some NameKind.cell) = true then NameKind.cell else p.2) := by
    funext ⟨n, kd⟩
    simp only
    split <;> rfl
  rw [hf]
  induction scope.names with
  | nil => rfl
  | cons p r ih =>
    obtain ⟨n, kd⟩ := p
    rw [List.map_cons, List.lookup_cons, List.lookup_cons]
    by_cases hx : (x == n) = true
    · have : x = n := by simpa using hx
      subst this
      simp only [beq_self_eq_true, Option.map_some]
    · have hx' : (x == n) = false := by simpa using hx
      simp only [hx']
      exact ih

/-- the state in which a comprehension's loop begins -/
structure CIn (Y : Sys) (A : Around) (scope sc : Scope) (env : Env) (hid : Addr → Bool) (ρ : List (Str × D)) (s₀ : Shared) (I Dd C : Addr) (fp : List Addr) (h : Heap) (items : List D) : Prop where
  st : CSt Y A (relabelS scope sc) (compEnvC scope (closOf env scope.names []) C env) (hide (hide hid I) Dd) Dd fp [I] (.ref I) h (capt scope ρ) [] items
  ap : ∀ x, scope.names.lookup x = some .local → (x == ("__debug__" : Str)) = false → CAp Y (compEnvC scope (closOf env scope.names []) C env) (hide (hide hid I) Dd) Dd fp [I] x
  fI : s₀.heap.get? I = none
  fD : s₀.heap.get? Dd = none
  fC : s₀.heap.get? C = none
  ID : I ≠ Dd
  kp : Kp Y.P s₀.heap h

/-- where it ends -/
noncomputable def COut (Y : Sys) (scope : Scope) (env : Env) (hid : Addr → Bool) (I Dd C : Addr) (s₄ : Shared) (Q : D → Prop) (r : Result) (s' : Shared) : Prop :=
  match r with
  | .ok _ => ∃ h' tk acc, s' = { s₄ with heap := h', toks := tk } ∧ KpX Y.P [C, Dd, I] s₄.heap h' ∧ Y.G h' ∧ (∃ vs : List Value, h'.PlainList Dd vs.toArray ∧ RepL (vis h' (hide (hide hid I) Dd)) vs acc) ∧ (∃ m, h'.Ns C m) ∧ Q (.list acc)
  | .error _ => False

theorem comp_enter (O : SysOk Y) {ev : Expr → (D → Prop) → Prop} (S : SndE Y k sc ρ ev) {elt iter : Expr} {x : Str} {px pos : Pos} {ifs : List Expr} {rest : List Comprehension} {scope : Scope} {xs : List Str} {Q1 Q : D → Prop} {use : Option (Value → Sem Unit)} {R : Value → Shared → Prop}
    (ok : compOk scope sc xs = true) (hi : okSet iter = true) (hq : ∀ d, Q1 d → iterD d ≠ none) (p : ev iter Q1) (V : EnvOk Y sc env s.heap hid ρ) (g : Y.G s.heap) (H : HidOk Y hid s.heap) (Rm : Room k A)
    (loop : ∀ d items I Dd C fp h tk, Q1 d → iterD d = some items → CIn Y A scope sc env hid ρ s I Dd C fp h items →
      codeAny (model Y.prog Y.w) A (.compLoop (.ListComp elt (⟨.Name x px, iter, ifs, 0⟩ :: rest) scope pos) 0 (.ref I) (.ref Dd) (compEnvC scope (closOf env scope.names []) C env)) (COut Y scope env hid I Dd C { s with heap := h, toks := tk } Q) { s with heap := h, toks := tk })
    (fin : ∀ Dd C s', Up Y s s' → s.heap.get? C = none → s.heap.get? Dd = none → Dd ≠ C → (∃ m, s'.heap.Ns C m) → (∃ acc, Rep (vis s'.heap hid) (.ref Dd) (.list acc) ∧ Q (.list acc)) →
      match use with
      | none => ∀ h', Heap.SameBut C s'.heap h' → R (.ref Dd) { s' with heap := h' }
      | some u => wpAny (model Y.prog Y.w) A (u (.ref Dd)) (fun _ s'' => ∃ m, s''.heap.Ns C m ∧ ∀ h', Heap.SameBut C s''.heap h' → R .none { s'' with heap := h' }) E s') :
    wpAny (model Y.prog Y.w) A (comprehension (.ListComp elt (⟨.Name x px, iter, ifs, 0⟩ :: rest) scope pos) scope env (firstIterPos (⟨.Name x px, iter, ifs, 0⟩ :: rest) pos) (newList []) false (eval iter env) use) R E s := by
  have K := compOk_of ok
  have hsk : sc.kind = .function := by rw [← V.sce]; exact V.kind
  have hcl : ∀ p ∈ scope.names, p.2 = .free → ∃ c, env.cells.lookup p.1 = some c := fun p hp e => (V.cells p.1 (K.free p hp e)).2
  refine wpAny_comprehension_free (g := ⟨.Name x px, iter, ifs, 0⟩) (gs := rest) rfl (okSet_fold hi env) (closureFor_eq hcl) K.kind K.names ?_
  refine bindP (S iter _ A s env hid E p V g H Rm) fun v s1 d u1 r1 p1 => ?_
  obtain ⟨h1, tk1, rfl, kp1, g1⟩ := id u1
  cases hd : iterD d with
  | none => exact absurd hd (hq d p1)
  | some items =>
    have V1 := V.up O g kp1 H.p
    have H1 := H.ups O u1
    refine iter_sound O hd r1 g1 H1 Rm.h fun I h2 fp k2 fI lI hfp it2 => ?_
    refine wpAny_newObj_type (wpAny_newFunctionEnv K.nocell (by intro y hy; simp at hy) (fun h4 ns4 sb4 => ?_) K.kind)
    dsimp only at ns4 sb4 ⊢
    generalize hH3 : h2.push { cls := .type "list", dict := none, data := .seq ([] : List Value).toArray } = H3 at ns4 sb4 ⊢
    have hCs : H3.objs.size = h2.objs.size + 1 := by rw [← hH3, Heap.size_push]
    have hDC : h2.objs.size ≠ H3.objs.size := by rw [hCs]; exact Nat.ne_of_lt (Nat.lt_succ_self _)
    have fD2 : h2.get? h2.objs.size = none := get_size _
    have fC2 : h2.get? H3.objs.size = none := by
      cases e : h2.get? H3.objs.size with
      | none => rfl
      | some o => exact absurd (Heap.lt_size e) (by rw [hCs]; exact Nat.not_lt.mpr (Nat.le_succ _))
    have k24 : ∀ b o, h2.get? b = some o → h4.get? b = some o := fun b o e => sb4.extBut b o (by rintro rfl; rw [fC2] at e; cases e) (Heap.get?_push_of_some _ (hH3 ▸ Heap.get?_push_of_some _ e))
    have k14 : ∀ b o, h1.get? b = some o → h4.get? b = some o := fun b o e => k24 b o (k2 b o e)
    have g2 := O.mono _ _ g1 k2
    have g4 := O.mono _ _ g1 k14
    have lD : h4.PlainList h2.objs.size ([] : List Value).toArray := ⟨_, sb4.extBut _ _ hDC (Heap.get?_push_of_some _ (hH3 ▸ Heap.get?_push_size _ rfl))⟩
    have fI1 : h1.get? I = none := fI
    have fD1 : h1.get? h2.objs.size = none := by
      cases e : h1.get? h2.objs.size with
      | none => rfl
      | some o => have := k2 _ _ e; rw [fD2] at this; cases this
    have fC1 : h1.get? H3.objs.size = none := by
      cases e : h1.get? H3.objs.size with
      | none => rfl
      | some o => have := k2 _ _ e; rw [fC2] at this; cases this
    obtain ⟨oI, eI, vI, dI⟩ := lI
    have ID : I ≠ h2.objs.size := Nat.ne_of_lt (Heap.lt_size eI)
    have IC : I ≠ H3.objs.size := by rw [hCs]; exact Nat.ne_of_lt (Nat.lt_succ_of_lt (Heap.lt_size eI))
    have H4 : HidOk Y (hide (hide hid I) h2.objs.size) h4 := by
      have h5 : HidOk Y hid h4 := H1.up (.of k14) (let ⟨_, e⟩ := O.tab _ g4; ⟨_, e⟩)
      obtain ⟨q, eD⟩ := id lD
      exact (h5.hide (k24 _ _ eI) (fresh_notC O g1 fI1)).hide eD (fresh_notC O g1 fD1)
    have back : ∀ b o, b ≠ Y.P → s.heap.get? b = some o → h4.get? b = some o := fun b o hb e => k14 b o (kp1 b o hb e)
    have nots : ∀ a, h1.get? a = none → a ≠ Y.P := fun a ha e => by
      obtain ⟨_, e1⟩ := O.tab _ g1
      rw [e, e1] at ha; cases ha
    have frs : ∀ a, h1.get? a = none → s.heap.get? a = none := fun a ha => by
      cases e : s.heap.get? a with
      | none => rfl
      | some o => have := kp1 a o (nots a ha) e; rw [ha] at this; cases this
    have up4 : ∀ {v : Value} {d : D}, Rep (vis h1 hid) v d → Rep (vis h4 (hide (hide hid I) h2.objs.size)) v d := fun r =>
      ((r.hide_fresh fI1).hide_fresh fD1).mono fun b o _ e => by obtain ⟨e1, e2⟩ := vis_get e; exact vis_of (k14 b o e1) e2
    have clL : ∀ y c, (closOf env scope.names []).lookup y = some c → ∃ z, env.cells.lookup z = some c := fun y c e =>
      closOf_from scope.names [] hcl (fun q hq => by cases hq) (y, c) (mem_of_lookup e)
    have Vc : EnvOk Y (relabelS scope sc) (compEnvC scope (closOf env scope.names []) H3.objs.size env) h4 (hide (hide hid I) h2.objs.size) (capt scope ρ) := by
      refine ⟨K.kind, relabel_eq V.sce, V.glob, V.bui, O.fresh _ _ g1 fC1, fun y hy => ?_, fun y c e => ?_, fun y dy hy => ?_⟩
      · rw [lookup_relabelS hsk] at hy
        cases hl : scope.names.lookup y with
        | none => rw [hl] at hy; cases hy
        | some kd =>
          rw [hl] at hy
          simp only [Option.map_some, Option.some.injEq] at hy
          split at hy
          · rename_i hc
            simp only [Bool.and_eq_true, beq_iff_eq] at hc
            obtain ⟨q1, c, hc2⟩ := V.cells y hc.2
            exact ⟨q1, c, closOf_acc hc2 _ _ (.inr ⟨rfl, by rw [hl, hc.1]⟩)⟩
          · subst hy
            exact absurd rfl (K.nocell _ (mem_of_lookup hl))
      · obtain ⟨z, hz⟩ := clL y c e
        obtain ⟨v, o, e3, d3⟩ := V1.cellAt z c hz
        exact ⟨v, o, k14 c o e3, d3⟩
      · unfold capt at hy
        rw [lookup_filter (p := fun y => scope.names.lookup y == some NameKind.free)] at hy
        split at hy
        · rename_i hf
          have hf' : scope.names.lookup y = some .free := by simpa using hf
          have hsc := K.free _ (mem_of_lookup hf')
          have hsc := hsc rfl
          obtain ⟨q0, vy, hv, ry⟩ := V1.vars y dy hy
          have kE : env.kindOf y = some .cell := by unfold Env.kindOf; rw [V.sce]; exact hsc
          refine ⟨q0, vy, .inr ⟨.inl ?_, ?_⟩, up4 ry⟩
          · show (relabel scope env).names.lookup y = some .cell
            rw [relabel_eq V.sce, lookup_relabelS hsk, hf']
            simp [hsc]
          · rcases hv with ⟨q, _⟩ | ⟨_, q1, c, e2, n2⟩
            · rw [kE] at q; cases q
            · obtain ⟨o, e3, e4⟩ := n2
              exact ⟨q1, c, closOf_acc e2 _ _ (.inr ⟨rfl, hf'⟩), o, k14 c o e3, e4⟩
        · cases hy
    have ItD : ItAt Y A (hide (hide hid I) h2.objs.size) fp [I] h4 (.ref I) items :=
      (it2.hide fD2).frame (fun b _ o e => k24 b o e) fun b o _ _ e => k24 b o e
    have cin : CIn Y A scope sc env hid ρ s I h2.objs.size H3.objs.size fp h4 items := by
      refine ⟨⟨Vc, g4, H4, ⟨[], lD, .nil⟩, ItD, ⟨_, ns4⟩⟩, fun y hy hyd => ?_, frs _ fI1, frs _ fD1, frs _ fC1, ID, back⟩
      · have live : ∀ z c, (closOf env scope.names []).lookup z = some c → ∃ o, h1.get? c = some o := fun z c e => by
          obtain ⟨z', hz⟩ := clL z c e
          obtain ⟨v, o, e3, d3⟩ := V1.cellAt z' c hz
          exact ⟨o, e3⟩
        have fpl : ∀ b ∈ fp, b ≠ I → ∃ o, h1.get? b = some o := fun b hb hn => let ⟨o, e, _⟩ := hfp b hb hn; ⟨o, e⟩
        refine ⟨lookup_relabel_local hy, hyd, by simpa using ID.symm, fun hm => ?_, (fun hm => IC.symm (List.mem_singleton.mp hm)), fun hm => ?_, fun z c e hm => ?_, fun z c e hm => ?_, hide_self _ _, O.fresh _ _ g1 fD1, fun b hb => ?_⟩
        · obtain ⟨o, e⟩ := fpl _ hm ID.symm
          rw [fD1] at e; cases e
        · obtain ⟨o, e⟩ := fpl _ hm IC.symm
          rw [show h1.get? (compEnvC scope (closOf env scope.names []) H3.objs.size env).locals = none from fC1] at e; cases e
        · simp at hm; subst hm
          obtain ⟨o, e⟩ := live z _ e
          rw [fI1] at e; cases e
        · subst hm
          obtain ⟨o, e⟩ := live z _ e
          rw [fD1] at e; cases e
        · simp at hb; subst hb; exact O.fresh _ _ g1 fI1
    have lp := loop d items I h2.objs.size H3.objs.size fp h4 (tk1 + ([] : List (Str × Value)).length) p1 hd cin
    have post : ∀ r s', COut Y scope env hid I h2.objs.size H3.objs.size { s with heap := h4, toks := tk1 + ([] : List (Str × Value)).length } Q r s' → compPost (model Y.prog Y.w) A E use R (.ref h2.objs.size) H3.objs.size r s' := by
      intro r s' hr
      cases r with
      | error e => exact hr.elim
      | ok f =>
        obtain ⟨h5, tk5, acc, rfl, kx, g5, ⟨vs, pl, rl⟩, ⟨m, nm⟩, q⟩ := hr
        have u5 : Up Y s { s with heap := h5, toks := tk5 } := by
          refine ⟨h5, tk5, rfl, fun b o hb e => kx b o hb (fun hm => ?_) (back b o hb e), g5⟩
          simp only [List.mem_cons, List.not_mem_nil, or_false] at hm
          rcases hm with rfl | rfl | rfl
          · rw [frs _ fC1] at e; cases e
          · rw [frs _ fD1] at e; cases e
          · rw [frs _ fI1] at e; cases e
        have rD : Rep (vis h5 hid) (.ref h2.objs.size) (.list acc) := by
          obtain ⟨n5, e5⟩ := id pl
          exact .list (vis_of e5 (H1.fresh fD1)) rfl rfl rl.unhide.unhide
        have fn := fin h2.objs.size H3.objs.size { s with heap := h5, toks := tk5 } u5 (frs _ fC1) (frs _ fD1) hDC ⟨m, nm⟩ ⟨acc, rD, q⟩
        cases use with
        | none => exact ⟨m, nm, fn⟩
        | some u => exact fn
    exact codeAny_compStart_list (codeAny_mono lp post) (ItD.self (s := { s with heap := h4, toks := tk1 + ([] : List (Str × Value)).length }) (codeAny_mono lp post))
end
end Mine
end
section
set_option tactic.hygienic false
open PySem PySem.W PySem.Calls PyProof.Rows
namespace Mine

theorem compTurn_node {elt iter iter2 : Expr} {t1 t2 : Expr} {scope : Scope} {pos : Pos} {it acc : Value} {env : Env} :
    compTurn (.ListComp elt [⟨t1, iter, [], 0⟩, ⟨t2, iter2, [], 0⟩] scope pos) 0 it acc env = (do
      standAt iter.pos
      match ← pyNext it with
      | none => pure (.done .next)
      | some v =>
        letOwnedTupleGo t1 it v
        assign t1 env v
        let x ← eval iter2 env
        standAt iter2.pos
        let x ← foldedSetIterable iter2 env x
        let _ ← runOwn (.compStart (.ListComp elt [⟨t1, iter, [], 0⟩, ⟨t2, iter2, [], 0⟩] scope pos) 1 (← holding [x] (pyIter x)) acc env) env
        again (.compLoop (.ListComp elt [⟨t1, iter, [], 0⟩, ⟨t2, iter2, [], 0⟩] scope pos) 0 it acc env)) := by rfl

section
variable {prog : Program} {w : World} {A : Around} {R : Result → Shared → Prop} {s : Shared}
theorem nodeLoop {elt iter iter2 t1 t2 : Expr} {scope : Scope} {pos : Pos} {it acc : Value} {env : Env} (hf : ∀ x, foldedSetIterable iter2 env x = pure x) (I : Nat → Shared → Prop)
    (turn : ∀ n s, I n s → wpAny (model prog w) A (pyNext it) (fun r s₁ => match r with
      | none => R (.ok .next) s₁
      | some v => wpAny (model prog w) A (assign t1 env v) (fun _ s₂ => wpAny (model prog w) A (eval iter2 env) (fun x s₃ => wpAny (model prog w) A (pyIter x) (fun it2 s₄ =>
          codeAny (model prog w) A (.compStart (.ListComp elt [⟨t1, iter, [], 0⟩, ⟨t2, iter2, [], 0⟩] scope pos) 1 it2 acc env) (fun r s' => match r with | .ok _ => ∃ m, m < n ∧ I m s' | .error e => False) s₄)
          (notedBy (model prog w) A env fun e s' => R (.error e) s') s₃) (notedBy (model prog w) A env fun e s' => R (.error e) s') s₂) (notedBy (model prog w) A env fun e s' => R (.error e) s') s₁) (notedBy (model prog w) A env fun e s' => R (.error e) s') s)
    (n : Nat) (h : I n s) (ht : ∀ v, letOwnedTupleGo t1 it v = pure ()) :
    codeAny (model prog w) A (.compLoop (.ListComp elt [⟨t1, iter, [], 0⟩, ⟨t2, iter2, [], 0⟩] scope pos) 0 it acc env) R s := by
  refine codeAny_loop rfl I (fun n s hI => ?_) n h
  show wpAny _ A ((compTurn (.ListComp elt [⟨t1, iter, [], 0⟩, ⟨t2, iter2, [], 0⟩] scope pos) 0 it acc env).onRaise (fun x => do noteFrame x env; theTreesLotGoes x)) _ _ s
  refine wpAny_noted ?_
  rw [compTurn_node]
  refine wpAny_bind (wpAny_standAt (wpAny_bind (wpAny_mono (turn n s hI) (fun r s₁ h₁ => ?_) fun _ _ h' => h')))
  cases r with
  | none => exact wpAny_pure h₁
  | some v =>
    refine wpAny_bind (wpAny_of_eq (ht v) ?_)
    refine wpAny_bind (wpAny_mono h₁ (fun _ s₂ h₂ => wpAny_bind (wpAny_mono h₂ (fun x s₃ h₃ => ?_) fun _ _ h' => h')) fun _ _ h' => h')
    refine wpAny_bind (wpAny_standAt (wpAny_bind (wpAny_of_eq (hf x) ?_)))
    refine wpAny_bind (wpAny_holding (wpAny_mono h₃ (fun it2 s₄ h₄ => ?_) fun _ _ h' => h'))
    refine wpAny_bind (wpAny_runOwn (h := none) (codeAny_mono h₄ fun r s' hr => ?_))
    cases r with
    | ok f => exact wpAny_pure ⟨rfl, hr⟩
    | error e => exact hr.elim

theorem compStart1 {elt iter iter2 t1 t2 : Expr} {scope : Scope} {pos : Pos} {it acc : Value} {env : Env}
    (h0 : codeAny (model prog w) A (.compLoop (.ListComp elt [⟨t1, iter, [], 0⟩, ⟨t2, iter2, [], 0⟩] scope pos) 1 it acc env) R s)
    (h : wpAny (model prog w) A (pyIter it) (fun it' s' => codeAny (model prog w) A (.compLoop (.ListComp elt [⟨t1, iter, [], 0⟩, ⟨t2, iter2, [], 0⟩] scope pos) 1 it' acc env) R s')
      (notedBy (model prog w) A env fun x s' => R (.error x) s') s) :
    codeAny (model prog w) A (.compStart (.ListComp elt [⟨t1, iter, [], 0⟩, ⟨t2, iter2, [], 0⟩] scope pos) 1 it acc env) R s := by
  refine codeAny_of_tree ?_
  show wpAny _ _ ((compStart (.ListComp elt [⟨t1, iter, [], 0⟩, ⟨t2, iter2, [], 0⟩] scope pos) 1 it acc env).onRaise (fun x => do noteFrame x env; standAt theWindowsPlace)) _ _ s
  refine wpAny_notedAt ?_
  unfold compStart
  show wpAny _ _ (ask >>= _) _ _ s
  refine wpAny_bind (wpAny_askSetting (wpAny_ite ?_))
  split
  · first
      | exact wpAny_bind (wpAny_pure (wpAny_pure (And.intro rfl h0)))
      | exact wpAny_pure (And.intro rfl h0)
  · first
      | exact wpAny_bind (wpAny_rule (wpAny_bind (wpAny_standAt (wpAny_bind (wpAny_mono h (fun it' s' h' => wpAny_pure (And.intro rfl h')) fun _ _ x => x)))))
      | (refine wpAny_bind (wpAny_rule ?_); show wpAny _ _ (standAt iter2.pos >>= _) _ _ s; exact wpAny_bind (wpAny_standAt (wpAny_bind (wpAny_mono h (fun it' s' h' => wpAny_pure (And.intro rfl h')) fun _ _ x => x))))
end

section
variable {Y : Sys} {T : Tab} {k : Nat} {A : Around} {E : Value → Shared → Prop} {s : Shared} {hid : Addr → Bool} {env : Env} {sc : Scope} {ρ : List (Str × D)}

theorem EnvOk.unhide {h : Heap} {a : Addr} (V : EnvOk Y sc env h (hide hid a) ρ) : EnvOk Y sc env h hid ρ :=
  ⟨V.kind, V.sce, V.glob, V.bui, V.baseL, V.cells, V.cellAt, fun x d e => by
    obtain ⟨q, v, hv, r⟩ := V.vars x d e
    exact ⟨q, v, hv, r.unhide⟩⟩
theorem EnvOk.hide {h : Heap} {a : Addr} (V : EnvOk Y sc env h hid ρ) (ha : h.get? a = none) : EnvOk Y sc env h (hide hid a) ρ :=
  ⟨V.kind, V.sce, V.glob, V.bui, V.baseL, V.cells, V.cellAt, fun x d e => by
    obtain ⟨q, v, hv, r⟩ := V.vars x d e
    exact ⟨q, v, hv, r.hide_fresh ha⟩⟩
theorem RepL.hide_fresh {h : Heap} {hid : Addr → Bool} {a : Addr} {v : List Value} {d : List D} (ha : h.get? a = Option.none) (r : RepL (vis h hid) v d) : RepL (vis h (hide hid a)) v d :=
  r.mono fun b o _ e => by obtain ⟨e1, e2⟩ := vis_get e; exact vis_of e1 (hide_ne e2 (by rintro rfl; rw [ha] at e1; cases e1))

theorem comp2_loop (O : SysOk Y) {ev : List (Str × Mine.D) → Expr → (Mine.D → Prop) → Prop} {tv : List (Str × Mine.D) → Expr → (Bool → Prop) → Prop} (S : Sn Y k sc ev tv) {cenv : Env} {D : Addr} {fp : List Addr} {I : Addr} {x y : Str}
    {elt iter iter2 : Expr} {px py : Pos} {scope : Scope} {pos : Pos} {R : Result → Shared → Prop} (ap : CAp Y cenv hid D fp [I] x) (hy : cenv.kindOf y = some .local) (hyd : (y == ("__debug__" : Str)) = false) (hs2 : okSet iter2 = true)
    (Rm : Room k A) {items : List Mine.D} {ρ : List (Str × Mine.D)} {acc : List Mine.D} {Q : List Mine.D → Prop} (p : comp2 x y iter2 elt ev tv items ρ acc Q) (st : CSt Y A sc cenv hid D fp [I] (.ref I) s.heap ρ acc items)
    (hR : ∀ h' tk acc', KpX Y.P [cenv.locals, D, I] s.heap h' → Y.G h' → (∃ vs : List Value, h'.PlainList D vs.toArray ∧ RepL (vis h' hid) vs acc') → (∃ m, h'.Ns cenv.locals m) → Q acc' →
      R (.ok .next) { s with heap := h', toks := tk }) :
    codeAny (model Y.prog Y.w) A (.compLoop (.ListComp elt [⟨.Name x px, iter, [], 0⟩, ⟨.Name y py, iter2, [], 0⟩] scope pos) 0 (.ref I) (.ref D) cenv) R s := by
  refine nodeLoop (okSet_fold hs2 cenv) (fun n s' => ∃ items' ρ' acc' h' tk, n = items'.length ∧ s' = { s with heap := h', toks := tk } ∧ comp2 x y iter2 elt ev tv items' ρ' acc' Q ∧ CSt Y A sc cenv hid D fp [I] (.ref I) h' ρ' acc' items' ∧ KpX Y.P [cenv.locals, D, I] s.heap h') ?_ items.length
    ⟨items, ρ, acc, s.heap, s.toks, rfl, rfl, p, st, KpX.refl⟩ (fun _ => rfl)
  rintro n s' ⟨items', ρ', acc', h', tk, rfl, rfl, p', st', kx⟩
  have hk : (cenv.scope.kind == .class || (cenv.scope.kind == .module && cenv.locals != cenv.globals)) = false := by rw [st'.V.kind]; rfl
  have wrs := st'.it.wr
  have hidI : ∀ b, hid b = false → b ∉ [I] := fun b hb hm => by rw [(wrs b hm).1] at hb; cases hb
  have notC : ∀ a ∈ [I], Y.base.get? a = none ∧ a ≠ Y.P ∧ ∀ o, h'.get? a = some o → notCode o := fun a ha => ⟨ap.wb a ha, (wrs a ha).2.1, fun o e => by obtain ⟨o', e', q⟩ := (wrs a ha).2.2; rw [e] at e'; cases e'; exact q⟩
  obtain ⟨vs, pl, rl⟩ := st'.acc
  obtain ⟨m, nm⟩ := st'.ns
  cases items' with
  | nil =>
    refine st'.it.done fun h1 tk1 bw => ?_
    have kb : ∀ b o, b ∉ [I] → h'.get? b = some o → h1.get? b = some o := bw
    exact hR h1 tk1 acc' (kx.trans fun b o _ hb e => kb b o (fun hm => hb (.tail _ (.tail _ hm))) e) (O.chg h' h1 [I] st'.g notC kb)
      ⟨vs, pl.at fun o e => kb _ o ap.Dw e, rl.mono fun b o _ e => by obtain ⟨e1, e2⟩ := vis_get e; exact vis_of (kb b o (hidI b e2) e1) e2⟩ ⟨m, nm.at' fun o e => kb _ o ap.Cw e⟩ p'
  | cons d items' =>
    refine st'.it.next fun v h1 tk1 bw rv it1 => ?_
    have kb : ∀ b o, b ∉ [I] → h'.get? b = some o → h1.get? b = some o := bw
    have V1 := st'.V.keep (fun o e => kb _ o ap.Cw e) (fun y c o hc e => kb c o (ap.cw y c hc) e) fun b o hb e _ => kb b o (hidI b hb) e
    have g1 := O.chg h' h1 [I] st'.g notC kb
    have pl1 := pl.at fun o e => kb _ o ap.Dw e
    have rl1 : RepL (vis h1 hid) vs acc' := rl.mono fun b o _ e => by obtain ⟨e1, e2⟩ := vis_get e; exact vis_of (kb b o (hidI b e2) e1) e2
    have n1 := nm.at' fun o e => kb _ o ap.Cw e
    have H1 : HidOk Y hid h1 := ⟨st'.H.p, fun b hb => by
      by_cases hm : b ∈ [I]
      · obtain ⟨o, e, _⟩ := (it1.wr b hm).2.2; exact ⟨o, e⟩
      · obtain ⟨o, e⟩ := st'.H.live b hb; exact ⟨o, kb b o hm e⟩, st'.H.cst⟩
    have kx1 : KpX Y.P [cenv.locals, D, I] s.heap h1 := kx.trans fun b o _ hb e => kb b o (fun hm => hb (.tail _ (.tail _ hm))) e
    refine wpAny_assign_Name (wpAny_storeName_local ap.hx n1 (fun h2 n2 hs2 => ?_) hk)
    have k2 : ∀ b o, b ≠ cenv.locals → h1.get? b = some o → h2.get? b = some o := fun b o hb e => (hs2.2 b hb).trans e
    have V2 := V1.setLocal ap.hx ap.hxd n1 n2 hs2 rv
    have g2 := O.chg h1 h2 [cenv.locals] g1 (fun a ha => by simp at ha; subst ha; exact ⟨st'.V.baseL, ns_notP O g1 n1, ns_notCode n1⟩) fun b o hb e => k2 b o (by simpa using hb) e
    have DC : D ≠ cenv.locals := by
      rintro rfl
      obtain ⟨k1, e1⟩ := pl1
      obtain ⟨o, es, ep, e, d', _⟩ := n1
      rw [e1] at e; cases e; cases d'
    have pl2 := pl1.at fun o e => k2 D o DC e
    have rl2 := repL_ns n1 k2 rl1
    have it2 : ItAt Y A hid fp [I] h2 (.ref I) items' := it1.frame (fun b hb o e => k2 b o (by rintro rfl; exact ap.Cf hb) e) fun b o hb hd e => k2 b o (by
      rintro rfl
      rw [ns_isDat n1 o e] at hd; cases hd) e
    have H2 : HidOk Y hid h2 := ⟨H1.p, fun b hb => by
      by_cases hm : b = cenv.locals
      · subst hm; obtain ⟨o, _, _, e, _⟩ := n2; exact ⟨o, e⟩
      · obtain ⟨o, e⟩ := H1.live b hb; exact ⟨o, k2 b o hm e⟩, H1.cst⟩
    have kx2 : KpX Y.P [cenv.locals, D, I] s.heap h2 := kx1.trans fun b o _ hb e => k2 b o (fun hm => hb (by rw [hm]; exact .head _)) e
    simp only [comp2] at p'
    refine bindP (S.e _ iter2 _ A _ cenv hid _ p' V2 g2 H2 Rm) fun v3 s3 d3 u3 r3 q3 => ?_
    obtain ⟨h3, tk3, rfl, kp3, g3⟩ := id u3
    cases hd : iterD d3 with
    | none => rw [hd] at q3; exact q3.elim
    | some items2 =>
      rw [hd] at q3
      obtain ⟨hz, q3⟩ := q3
      have V3 := V2.up O g2 kp3 H2.p
      have H3 : HidOk Y hid h3 := H2.up kp3 (let ⟨_, e⟩ := O.tab _ g3; ⟨_, e⟩)
      have pl3 := pl2.at fun o e => kp3 D o (list_notP O g2 pl2.isList) e
      have rl3 := rl2.up H2.p kp3
      have it3 := it2.up H2.p kp3
      have n3 := ns_kp O g2 kp3 n2
      refine iter_sound O hd r3 g3 H3 Rm.h fun I2 h4 fp2 k4 fI2 lI2 hfp2 itn => ?_
      change h3.get? I2 = none at fI2
      have g4 := O.mono _ _ g3 k4
      obtain ⟨oI, eI, vI, dI⟩ := lI2
      have H4 : HidOk Y (hide hid I2) h4 := (H3.up (.of k4) (let ⟨_, e⟩ := O.tab _ g4; ⟨_, e⟩)).hide eI (fresh_notC O g3 fI2)
      have V4 : EnvOk Y sc cenv h4 (hide hid I2) (setV x d ρ') := (V3.hide fI2).up O g3 (.of k4) (hide_of H3.p)
      have pl4 := pl3.at fun o e => k4 D o e
      have rl4 : RepL (vis h4 (hide hid I2)) vs acc' := (rl3.hide_fresh fI2).mono fun b o _ e => by obtain ⟨e1, e2⟩ := vis_get e; exact vis_of (k4 b o e1) e2
      have n4 := n3.at' fun o e => k4 _ o e
      have eD : ∃ o, h3.get? D = some o := let ⟨_, e⟩ := pl3; ⟨_, e⟩
      have eL : ∃ o, h3.get? cenv.locals = some o := let ⟨o, _, _, e, _⟩ := n3; ⟨o, e⟩
      have neI : ∀ a, (∃ o, h3.get? a = some o) → a ≠ I2 := fun a ⟨o, e⟩ hq => by rw [hq, fI2] at e; cases e
      have fpD : ∀ a, a ∈ fp2 → a ≠ I2 → a ≠ D ∧ a ≠ cenv.locals := fun a ha hn => by
        obtain ⟨o, e, hdat, hh⟩ := hfp2 a ha hn
        exact ⟨(fun q => by rw [q, ap.Dh] at hh; cases hh), (fun q => by rw [q] at e; rw [ns_isDat n3 o e] at hdat; cases hdat)⟩
      have ap4 : CAp Y cenv (hide hid I2) D fp2 [I2] y :=
        ⟨hy, hyd, fun hm => neI D eD (List.mem_singleton.mp hm), fun hm => (fpD D hm (neI D eD)).1 rfl, fun hm => neI _ eL (List.mem_singleton.mp hm), fun hm => (fpD _ hm (neI _ eL)).2 rfl,
          fun z c hc hm => by
            obtain ⟨v, o, e, _⟩ := V3.cellAt z c hc
            exact neI c ⟨o, e⟩ (List.mem_singleton.mp hm),
          ap.cD, hide_of ap.Dh, ap.Db, fun b hb => by simp at hb; subst hb; exact O.fresh _ _ g3 fI2⟩
      have inner : codeAny (model Y.prog Y.w) A (.compLoop (.ListComp elt [⟨.Name x px, iter, [], 0⟩, ⟨.Name y py, iter2, [], 0⟩] scope pos) 1 (.ref I2) (.ref D) cenv)
          (fun r s' => match r with | .ok _ => ∃ m, m < (d :: items').length ∧ ∃ items' ρ' acc' h' tk, m = items'.length ∧ s' = { s with heap := h', toks := tk } ∧ comp2 x y iter2 elt ev tv items' ρ' acc' Q ∧ CSt Y A sc cenv hid D fp [I] (.ref I) h' ρ' acc' items' ∧ KpX Y.P [cenv.locals, D, I] s.heap h' | .error e => False)
          { s with heap := h4, toks := tk3 } := by
        refine comp1_loop (s := { s with heap := h4, toks := tk3 }) O S ap4 rfl rfl Rm q3 ⟨V4, g4, H4, ⟨vs, pl4, rl4⟩, itn, ⟨_, n4⟩⟩ hz fun h5 tk5 ρ5 acc5 kx5 V5 g5 ⟨vs5, pl5, rl5⟩ ⟨m5, n5⟩ q5 _ => ?_
        have k45 : ∀ b o, b ≠ Y.P → b ≠ cenv.locals → b ≠ D → b ≠ I2 → h4.get? b = some o → h5.get? b = some o := fun b o h1 h2 h3 h4' e => kx5 b o h1 (by simp [h2, h3, h4']) e
        refine ⟨items'.length, by simp, items', ρ5, acc5, h5, tk5, rfl, rfl, q5, ⟨V5.unhide, g5, ?_, ⟨vs5, pl5, rl5.unhide⟩, ?_, ⟨m5, n5⟩⟩, ?_⟩
        · refine ⟨H3.p, fun b hb => ?_, H3.cst⟩
          by_cases h1 : b = Y.P
          · subst h1; obtain ⟨_, e⟩ := O.tab _ g5; exact ⟨_, e⟩
          by_cases h2 : b = cenv.locals
          · subst h2; obtain ⟨o, _, _, e, _⟩ := n5; exact ⟨o, e⟩
          by_cases h3' : b = D
          · subst h3'; obtain ⟨_, e⟩ := pl5; exact ⟨_, e⟩
          obtain ⟨o, e⟩ := H3.live b hb
          exact ⟨o, k45 b o h1 h2 h3' (neI b ⟨o, e⟩) (k4 b o e)⟩
        · refine it3.frame (fun b hb o e => ?_) fun b o hb hdt e => ?_
          · have hbP : b ≠ Y.P := by obtain ⟨_, _, _, _, _, _, _, _, _, hv, _⟩ := it3; exact hv b hb
            exact k45 b o hbP (by rintro rfl; exact ap.Cf hb) (by rintro rfl; exact ap.Df hb) (neI b ⟨o, e⟩) (k4 b o e)
          · refine k45 b o (by rintro rfl; rw [H3.p] at hb; cases hb) (by rintro rfl; rw [ns_isDat n3 o e] at hdt; cases hdt) (by rintro rfl; rw [ap.Dh] at hb; cases hb) (neI b ⟨o, e⟩) (k4 b o e)
        · refine (kx2.trans (KpX.of kp3)).trans fun b o hP hb e => ?_
          exact k45 b o hP (fun q => hb (by rw [q]; exact .head _)) (fun q => hb (by rw [q]; exact .tail _ (.head _))) (neI b ⟨o, e⟩) (k4 b o e)
      exact compStart1 inner (itn.self (s := { s with heap := h4, toks := tk3 }) inner)
end
end Mine
end
section
set_option tactic.hygienic false
open PySem PySem.W PySem.Calls PyProof.Rows
namespace Mine

section
variable {Y : Sys} {T : Tab} {k : Nat} {A : Around} {E : Value → Shared → Prop} {s : Shared} {hid : Addr → Bool} {env : Env} {sc : Scope} {ρ : List (Str × D)}

theorem load_var {x : Str} {v : Value} {pos : Pos} {Q : Value → Shared → Prop} (V : EnvOk Y sc env s.heap hid ρ) (hd : (x == ("__debug__" : Str)) = false) (hv : VarAt env s.heap x v) (h : Q v s) : wpAny (model Y.prog Y.w) A (eval (.Name x pos) env) Q E s := by
  refine wpAny_Name ?_ hd
  rcases hv with ⟨q, m, n, hm⟩ | ⟨q, hc, c, e, n⟩
  · exact wpAny_loadName_local V.kind q n hm h
  · rcases q with q | q
    · exact wpAny_loadName_cell V.kind q e n h
    · exact wpAny_loadName_free V.kind q e n h hc

theorem kind_glob (V : EnvOk Y sc env s.heap hid ρ) {x : Str} (h : globalKind sc x = true) : env.kindOf x = some .globalImplicit := by
  unfold Env.kindOf
  rw [V.sce]
  simpa [globalKind] using h

theorem load_glob (O : SysOk Y) {x : Str} {v : Value} {pos : Pos} {Q : Value → Shared → Prop} (V : EnvOk Y sc env s.heap hid ρ) (g : Y.G s.heap) (hk : globalKind sc x = true) (hd : (x == ("__debug__" : Str)) = false) (hv : Y.mg x = some v) (h : Q v s) :
    wpAny (model Y.prog Y.w) A (eval (.Name x pos) env) Q E s :=
  Name_function_global V.kind (kind_glob V hk) (loadGlobal_global (by rw [V.glob]; exact O.glob _ g) hv h) hd
theorem load_bi (O : SysOk Y) {x : Str} {v : Value} {pos : Pos} {Q : Value → Shared → Prop} (V : EnvOk Y sc env s.heap hid ρ) (g : Y.G s.heap) (hk : globalKind sc x = true) (hd : (x == ("__debug__" : Str)) = false) (hv : biVal x = some v) (h : Q v s) :
    wpAny (model Y.prog Y.w) A (eval (.Name x pos) env) Q E s :=
  Name_function_global V.kind (kind_glob V hk) (loadGlobal_builtin (by rw [V.glob]; exact O.glob _ g) (O.bi x v hv).1 (by rw [V.bui]; exact O.bui _ g) (O.bi x v hv).2 h) hd

theorem none_ne {α : Type} {d : α} (h : (none : Option α) = some d) : False := by cases h
set_option tactic.hygienic true in
theorem constD_E {e : Expr} {d : D} {C : Expr → D → Prop} (h : constD e = some d) (c1 : ∀ i k p, C (.Constant (.int i) k p) (.int i)) (c2 : ∀ x k p, C (.Constant (.str x) k p) (.str x)) (c3 : ∀ b k p, C (.Constant (.bool b) k p) (.bool b))
    (c4 : ∀ i k p p', C (.UnaryOp .USub (.Constant (.int i) k p') p) (.int (-i))) : C e d := by
  cases e <;> first | exact (none_ne h).elim | skip
  · rename_i op x p
    cases op <;> first | exact (none_ne h).elim | skip
    cases x <;> first | exact (none_ne h).elim | skip
    rename_i c k p'
    cases c <;> first | exact (none_ne h).elim | skip
    exact Option.some.inj h ▸ c4 _ _ _ _
  · rename_i c k p
    cases c <;> first | exact (none_ne h).elim | exact Option.some.inj h ▸ c3 _ _ _ | exact Option.some.inj h ▸ c2 _ _ _ | exact Option.some.inj h ▸ c1 _ _ _
theorem const_sound {e : Expr} {d : D} {Q : D → Prop} (h : constD e = some d) (q : Q d) (g : Y.G s.heap) : wpAny (model Y.prog Y.w) A (eval e env) (Post Y hid s Q) E s := by
  revert q
  exact constD_E (C := fun e d => Q d → wpAny (model Y.prog Y.w) A (eval e env) (Post Y hid s Q) E s) h (fun i k p q => wpAny_Constant_int (post_same g (fun _ => .int _ _) q)) (fun x k p q => wpAny_Constant_str (post_same g (fun _ => .str _ _) q))
    (fun b k p q => wpAny_Constant_bool (post_here g (.bool _) q)) fun i k p p' q => wpAny_UnaryOp (wpAny_Constant_int (neg_int ⟨Up.toks g _, _, .int _ _, q⟩))

theorem any_plain {pos : Pos} : ∀ {es : List Expr} (ev : Expr → (D → Prop) → Prop) (Q : List D → Prop), (∀ e ∈ es, okArg e = true) → (backTo pos (starEach es env)).any (·.1) = false
  | [], _, _, _ => rfl
  | e :: es, ev, Q, h => by
    have h1 := h e (.head _)
    have ih := any_plain (pos := pos) (es := es) ev Q fun e he => h e (.tail _ he)
    cases e <;> first | (exact ih) | (cases h1)

theorem wpEs_ok {ev : Expr → (D → Prop) → Prop} (hmono : True) : ∀ {es : List Expr} {Q : List D → Prop}, wpEs ev es Q → es ≠ [] → okArg (es.head?.getD (.Name Str.empty ⟨0,0,0,0⟩)) = true
  | [], _, _, h => absurd rfl h
  | _ :: _, _, p, _ => p.1

theorem call_args (O : SysOk Y) {ev : Expr → (D → Prop) → Prop} (S : SndE Y k sc ρ ev) {pos : Pos} {f : Value} {first : List Value} {es : List Expr} {Q1 : List D → Prop} {R : Value → Shared → Prop} {PH : Heap → Prop} (hne : es ≠ []) (hok : es.all okArg = true) (p : wpEs ev es Q1)
    (V : EnvOk Y sc env s.heap hid ρ) (g : Y.G s.heap) (H : HidOk Y hid s.heap) (Rm : Room k A)
    (hk : ∀ h, PH h → ∃ kp, (kp = Keeper.frame ∨ kp = Keeper.machine ∨ kp = Keeper.boundFrame) ∧ Looks (model Y.prog Y.w) h (keeperOf f) kp)
    (h : ∀ vs s' ds, Up Y s s' → RepL (vis s'.heap hid) vs ds → Q1 ds → PH s'.heap ∧ wpAny (model Y.prog Y.w) A (call f (first ++ vs)) R E s') :
    wpAny (model Y.prog Y.w) A (callWith pos f first (backTo pos (starEach es env)) []) R E s := by
  have hall : ∀ e ∈ es, okArg e = true := List.all_eq_true.mp hok
  refine callWith_of (P := PH) ?_ hk ?_
  · rw [any_plain ev Q1 hall]; rfl
  · cases es with
    | nil => exact absurd rfl hne
    | cons e es =>
      have he : starEach (e :: es) env = (false, eval e env) :: starEach es env := by
        have h1 := hall e (.head _)
        cases e <;> first | rfl | cases h1
      have hp := sndEs (E := E) (pos := pos) O S (e :: es) Q1 s p V g H Rm
      rw [he] at hp ⊢
      refine evalArgs_plain (wpAny_mono hp (fun vs s' q => ?_) fun _ _ x => x)
      obtain ⟨u, ds, r, q⟩ := q
      exact h vs s' ds u r q

set_option tactic.hygienic true in
theorem sub_ops (sl : Expr) (o i : Value) : ∃ ops, subscripted sl false o i = operate ops (getItem o i) := by
  cases sl <;> first | exact ⟨_, rfl⟩ | skip
  rename_i lo hi st p
  cases st <;> exact ⟨_, rfl⟩

/-- a sequence's own [] -/
theorem rep_item {d : D} {v : Value} (r : Rep (vis s.heap hid) v d) (hd : (∃ xs, d = .list xs) ∨ (∃ xs, d = .tuple xs) ∨ (∃ x, d = .str x) ∨ (∃ b, d = .bytes b)) :
    ∃ T id, s.TypeIs v T ∧ typeLookup (.type T) "__getitem__" = pure (some (.builtin id)) := by
  rcases hd with ⟨_, rfl⟩ | ⟨_, rfl⟩ | ⟨_, rfl⟩ | ⟨_, rfl⟩
  · cases r with
    | list h c e r => exact ⟨"list", _, (rep_isList h c e).typeIs, slot_list_getitem.lookup⟩
  · cases r with
    | tuple h c e r => exact ⟨"tuple", _, (rep_isTuple h c e).typeIs, F.slot_tuple_getitem.lookup⟩
  · cases r; exact ⟨"str", _, typeIs_str _ _ _, F.slot_str_getitem.lookup⟩
  · cases r; exact ⟨"bytes", _, typeIs_bytes _ _ _, FB.slot_bytes_getitem.lookup⟩
end
end Mine
end
section
set_option tactic.hygienic false
open PySem PySem.W PySem.Calls PyProof.Rows
namespace Mine

section
variable {Y : Sys} {T : Tab} {k : Nat} {A : Around} {E : Value → Shared → Prop} {s : Shared} {hid : Addr → Bool} {env : Env} {sc : Scope} {ρ : List (Str × D)}

theorem part_sound (O : SysOk Y) {ev : Expr → (D → Prop) → Prop} (S : SndE Y k sc ρ ev) {x : Option Expr} {Q : Option D → Prop} {R : Value → Shared → Prop} (p : wpOpt ev x Q)
    (V : EnvOk Y sc env s.heap hid ρ) (g : Y.G s.heap) (H : HidOk Y hid s.heap) (Rm : Room k A)
    (h : ∀ v s' d, Up Y s s' → RepO (vis s'.heap hid) v d → Q d → R v s') : wpAny (model Y.prog Y.w) A (evalPart x env) R E s := by
  cases x with
  | none => exact wpAny_evalPart_none (h .none s none (Up.refl g) rfl p)
  | some e => exact wpAny_evalPart_some (bindP (S e _ A s env hid E p V g H Rm) fun v s' d u r q => h v s' (some d) u r q)

theorem RepO.up {P : Addr} {h h' : Heap} (hp : hid P = true) (q : Kp P h h') {v : Value} {d : Option D} (r : RepO (vis h hid) v d) : RepO (vis h' hid) v d := by
  cases d with
  | none => exact r
  | some d => exact Rep.up hp q r

theorem tail_sound {d : D} {v i : Value} {value sl : Expr} {Q : D → Prop} (r : Rep (vis s.heap hid) v d) (hd : (∃ xs, d = .list xs) ∨ (∃ xs, d = .tuple xs) ∨ (∃ x, d = .str x) ∨ (∃ b, d = .bytes b))
    (h : wpAny (model Y.prog Y.w) A (getItem v i) (Post Y hid s Q) E s) : wpAny (model Y.prog Y.w) A (subscriptTail value sl v i) (Post Y hid s Q) E s := by
  obtain ⟨Ty, id, ht, hl⟩ := rep_item r hd
  obtain ⟨ops, he⟩ := sub_ops sl v i
  exact tail_any ht hl h he

theorem getP_kind {a b : D} {Q : D → Prop} (p : getP a b Q) : (∃ xs, a = .list xs) ∨ (∃ xs, a = .tuple xs) ∨ (∃ x, a = .str x) ∨ (∃ b, a = .bytes b) := by
  cases p with
  | list => exact .inl ⟨_, rfl⟩
  | tuple => exact .inr (.inl ⟨_, rfl⟩)
  | str => exact .inr (.inr (.inl ⟨_, rfl⟩))
  | bytes => exact .inr (.inr (.inr ⟨_, rfl⟩))
theorem sliceP_kind {a : D} {x y z : Option D} {Q : D → Prop} (p : sliceP a x y z Q) : (∃ xs, a = .list xs) ∨ (∃ xs, a = .tuple xs) ∨ (∃ x, a = .str x) ∨ (∃ b, a = .bytes b) := by
  obtain ⟨_, _, _, _, p⟩ := p
  cases p with
  | list => exact .inl ⟨_, rfl⟩
  | rev => exact .inl ⟨_, rfl⟩
  | str => exact .inr (.inr (.inl ⟨_, rfl⟩))
  | bytes => exact .inr (.inr (.inr ⟨_, rfl⟩))

theorem and3 {x y z : Expr} {pos : Pos} {Q : Value → Shared → Prop} {M : Model}
    (h : wpAny M A (eval x env) (fun v s₁ => wpAny M A (truthy v) (fun t s₂ => if t = true then
      wpAny M A (eval y env) (fun v' s₃ => wpAny M A (truthy v') (fun t' s₄ => if t' = true then wpAny M A (eval z env) Q E s₄ else Q v' s₄) E s₃) E s₂ else Q v s₂) E s₁) E s) :
    wpAny M A (eval (.BoolOp .And [x, y, z] pos) env) Q E s := by
  show wpAny M A (boolOp pos .And [eval x env, eval y env, eval z env]) Q E s
  refine wpAny_bind (wpAny_mono h (fun v s₁ h₁ => ?_) fun _ _ x => x)
  refine wpAny_bind (wpAny_standAt (wpAny_bind (wpAny_holding (wpAny_mono h₁ (fun t s₂ h₂ => ?_) fun _ _ x => x))))
  cases t with
  | false => exact wpAny_pure (by simpa using h₂)
  | true =>
    simp only [if_true] at h₂
    show wpAny M A (boolOp pos .And [eval y env, eval z env]) Q E s₂
    refine wpAny_bind (wpAny_mono h₂ (fun v s₁ h₁ => ?_) fun _ _ x => x)
    refine wpAny_bind (wpAny_standAt (wpAny_bind (wpAny_holding (wpAny_mono h₁ (fun t s₂ h₂ => ?_) fun _ _ x => x))))
    cases t with
    | false => exact wpAny_pure (by simpa using h₂)
    | true =>
      simp only [if_true] at h₂
      exact h₂

theorem merge_t (x y : D) : mergeD true x y = x := by cases x <;> first | rfl | (cases y <;> rfl)
theorem merge_f (x y : D) : mergeD false x y = y := by cases x <;> first | rfl | (cases y <;> rfl)
theorem merge_sound {b : Bool} {x y : D} {e1 e2 : Expr} {Q : D → Prop} (h1 : constD e1 = some x) (h2 : constD e2 = some y) (q : Q (mergeD b x y)) (g : Y.G s.heap) :
    if b = true then wpAny (model Y.prog Y.w) A (eval e1 env) (Post Y hid s Q) E s else wpAny (model Y.prog Y.w) A (eval e2 env) (Post Y hid s Q) E s := by
  cases b with
  | true =>
    simp only [if_true]
    refine const_sound h1 ?_ g
    have : mergeD true x y = x := merge_t x y
    rw [this] at q; exact q
  | false =>
    simp only [Bool.false_eq_true, if_false]
    refine const_sound h2 ?_ g
    have : mergeD false x y = y := merge_f x y
    rw [this] at q; exact q

theorem mach {M : Model} {f : Value} (hf : ∀ a, f ≠ .ref a) : ∀ h : Heap, True → ∃ kp, (kp = Keeper.frame ∨ kp = Keeper.machine ∨ kp = Keeper.boundFrame) ∧ Looks M h (keeperOf f) kp := fun h _ =>
  ⟨.machine, .inr (.inl rfl), Looks.of_pure (by cases f <;> first | rfl | exact absurd rfl (hf _))⟩
theorem starEach_one {a : Expr} (h : okArg a = true) (env : Env) : starEach [a] env = [(false, eval a env)] := by cases a <;> first | rfl | exact absurd h Bool.false_ne_true
theorem starEach_two {x : Expr} (h : okArg x = true) (t : Str) (pt : Pos) (env : Env) : starEach [x, .Name t pt] env = [(false, eval x env), (false, eval (.Name t pt) env)] := by cases x <;> first | rfl | exact absurd h Bool.false_ne_true
theorem isStr_ex {d : D} (h : isStr d = true) : ∃ x, d = .str x := by cases d <;> first | exact ⟨_, rfl⟩ | exact absurd h Bool.false_ne_true
theorem biVal_ref {f : Str} {v : Value} (h : biVal f = some v) : ∀ a, v ≠ .ref a := by
  unfold biVal at h
  intro a e
  subst e
  repeat' (split at h)
  all_goals simp at h

theorem fin_none (O : SysOk Y) {Q : D → Prop} : ∀ Dd C s', Up Y s s' → s.heap.get? C = none → s.heap.get? Dd = none → Dd ≠ C → (∃ m, s'.heap.Ns C m) → (∃ acc, Rep (vis s'.heap hid) (.ref Dd) (.list acc) ∧ Q (.list acc)) →
    ∀ h', Heap.SameBut C s'.heap h' → Y.G s.heap → Post Y hid s Q (.ref Dd) { s' with heap := h' } := by
  rintro Dd C s' u fC fD hDC ⟨m, nm⟩ ⟨acc, r, q⟩ h' hs g
  obtain ⟨h1, tk1, rfl, kp1, g1⟩ := id u
  have hk : ∀ b o, b ≠ C → h1.get? b = some o → h'.get? b = some o := fun b o hb e => (hs.2 b hb).trans e
  refine ⟨⟨h', tk1, rfl, fun b o hb e => hk b o (by rintro rfl; rw [fC] at e; cases e) (kp1 b o hb e), ?_⟩, _, rep_ns nm hk r, q⟩
  exact O.chg h1 h' [C] g1 (fun a ha => by simp at ha; subst ha; exact ⟨O.fresh _ _ g fC, ns_notP O g1 nm, ns_notCode nm⟩) fun b o hb e => hk b o (by simpa using hb) e

theorem sn_of (O : SysOk Y) {n : Nat} {sc' : Scope} (ih : ∀ sc ρ, SndE Y k sc ρ (wpE T n sc ρ)) : Sn Y k sc' (fun ρ' => wpE T n sc' ρ') (fun ρ' => wpT (wpE T n sc' ρ') n) :=
  ⟨fun ρ => ih sc' ρ, fun ρ e Q A s env hid E p V g H R => sndT O (ih sc' ρ) n e Q A s env hid E p V g H R⟩

theorem wpE_sound (O : SysOk Y) (TO : TabOk Y k T) : ∀ (n : Nat) (sc : Scope) (ρ : List (Str × D)), SndE Y k sc ρ (wpE T n sc ρ) := by
  intro n
  induction n with
  | zero => intro sc ρ e Q A s env hid E p; exact p.elim
  | succ n ih =>
    intro sc ρ e Q A s env hid E p V g H R
    have R0 : Room 0 A := R.le (Nat.zero_le _)
    cases p with
    | int i kk pos p => exact wpAny_Constant_int (post_same g (fun _ => .int _ _) p)
    | str x kk pos p => exact wpAny_Constant_str (post_same g (fun _ => .str _ _) p)
    | bool b kk pos p => exact wpAny_Constant_bool (post_here g (.bool _) p)
    | name x pos d hx p =>
      obtain ⟨q0, v, hv, r⟩ := V.vars x d hx
      exact load_var V q0 hv (post_here g r p)
    | glob x pos d p1 p2 hc p =>
      obtain ⟨v, hv, r⟩ := TO.cst x d hc
      exact load_glob O V g p1 p2 hv (post_here g (r _ _ g H) p)
    | bin l op r pos p =>
      refine wpAny_BinOp (bindP (ih sc ρ _ _ A s env hid E p V g H R) fun va s1 a u1 ra p1 => ?_)
      refine bindP (ih sc ρ _ _ A s1 env hid E p1 (V.up O g u1.kp H.p) u1.g (H.ups O u1) R) fun vb s2 b u2 rb p2 => ?_
      exact endP (u1.trans u2) (bin_sound O TO p2 (ra.up H.p u2.kp) rb u2.g ((H.ups O u1).ups O u2) R0)
    | neg i kk pos pos' p => exact wpAny_UnaryOp (wpAny_Constant_int (neg_int ⟨Up.toks g _, _, .int _ _, p⟩))
    | cmp l op r pos hb p =>
      refine wpAny_Compare1 (wpAny_mono (snd_cmp O (ih sc ρ) p V g H R) (fun a s1 q => wpAny_mono q (fun b s2 q => wpAny_mono q (fun v s3 q => ?_) fun _ _ x => x) fun _ _ x => x) fun _ _ x => x) hb
      obtain ⟨u, t, rfl, q⟩ := q
      exact ⟨u, _, .bool _, q⟩
    | and3 x y z pos p =>
      refine and3 (bindP (ih sc ρ _ _ A s env hid E p V g H R) fun va s1 a u1 ra p1 => ?_)
      refine wpAny_mono (truth_sound p1 ra u1.g) (fun b s2 q2 => ?_) fun _ _ x => x
      obtain ⟨u2, q2⟩ := q2
      have u12 := u1.trans u2
      cases b with
      | false => exact ⟨u12, a, ra.up H.p u2.kp, q2⟩
      | true =>
        simp only [if_true]
        refine bindP (ih sc ρ _ _ A s2 env hid E q2 (V.up O g u12.kp H.p) u2.g (H.ups O u12) R) fun vb s3 b u3 rb p3 => ?_
        refine wpAny_mono (truth_sound p3 rb u3.g) (fun b' s4 q4 => ?_) fun _ _ x => x
        obtain ⟨u4, q4⟩ := q4
        have u14 := (u12.trans u3).trans u4
        cases b' with
        | false => exact ⟨u14, b, rb.up H.p u4.kp, q4⟩
        | true =>
          simp only [if_true]
          exact endP u14 (ih sc ρ _ _ A s4 env hid E q4 (V.up O g u14.kp H.p) u4.g (H.ups O u14) R)
    | ife t b o pos x y h1 h2 p =>
      refine wpAny_IfExp (wpAny_mono (sndT O (ih sc ρ) n t _ A s env hid E p V g H R) (fun b s1 q => ?_) fun _ _ x => x)
      obtain ⟨u1, q⟩ := q
      have := merge_sound (A := A) (E := E) (hid := hid) (env := env) (s := s1) h1 h2 q u1.g
      cases b with
      | true => exact endP u1 this
      | false => exact endP u1 this
    | call f pf args pos Sp p1 p2 hF p3 p4 p =>
      refine wpAny_Call_NameR ?_
      obtain ⟨a, ha, fo, hfd⟩ := TO.fn f Sp hF
      refine load_glob O V g p1 p2 ha ?_
      refine call_args O (ih sc ρ) (PH := Y.G) p3 p4 p V g H R (fun h gh => ?_) fun vs s1 ds u1 r1 q1 => ⟨u1.g, endP u1 (fo A s1 hid vs ds Q E R u1.g (H.ups O u1) r1 q1)⟩
      obtain ⟨o, fd, e1, e2⟩ := hfd h gh
      refine ⟨.frame, .inl rfl, (Looks.ld (part := none) e1).andThen ?_⟩
      rw [e2]
      exact .now
    | isi x t pf pt pos p1 q1 q2 q3 p =>
      refine wpAny_Call_NameR ?_
      have hb : biVal (Str.ofString "isinstance") = some (.builtin "isinstance") := by kernel_rfl!
      refine load_bi O V g p1 (by kernel_rfl!) hb ?_
      have he := starEach_two q3 t pt env
      refine callWith_of (P := fun _ => True) (by rw [he]; rfl) (mach (biVal_ref hb)) ?_
      rw [he]
      refine evalArgs_plain (spliced_cons (bindP (ih sc ρ _ _ A s env hid E p V g H R) fun v s1 d u1 r1 p1 => ?_))
      refine spliced_cons ?_
      obtain ⟨tn, ht, htn, hw⟩ := isi_sound (A := A) (E := E) p1 r1 u1.g
      have hbt : biVal t = some (.type tn) := by
        subst ht
        rcases htn with rfl | rfl <;> kernel_rfl!
      exact load_bi O (V.up O g u1.kp H.p) u1.g q1 q2 hbt (spliced_nil ⟨trivial, endP u1 hw⟩)
    | bi f pf args pos p1 p2 p3 p4 p5 p =>
      refine wpAny_Call_NameR ?_
      obtain ⟨fv, hfv⟩ := Option.isSome_iff_exists.mp p5
      refine load_bi O V g p1 p2 hfv ?_
      exact call_args O (ih sc ρ) (PH := fun _ => True) p3 p4 p V g H R (mach (biVal_ref hfv)) fun vs s1 ds u1 r1 q1 => ⟨trivial, endP u1 (bi_sound O hfv q1 r1 u1.g (H.ups O u1) R0)⟩
    | meth o m ap a pos p1 p2 p3 p4 p =>
      obtain ⟨id, hid'⟩ := Option.isSome_iff_exists.mp p4
      obtain ⟨hs, ht⟩ := methId_facts hid'
      have he := starEach_one p3 env
      refine wpAny_Call_method (T := "str") (id := id) (by cases o <;> first | rfl | cases p2) (by rw [he]; rfl) p1 F.plainAttrs_str hs ht ?_
      refine bindP (ih sc ρ _ _ A s env hid E p V g H R) fun va s1 d u1 ra ⟨pd, pp⟩ => ?_
      obtain ⟨x, rfl⟩ := isStr_ex pd
      refine ra.strE fun t => ?_
      refine ⟨typeIs_str _ _ _, fun a e => (by cases e), ?_⟩
      refine callWith_of (P := fun _ => True) (by rw [he]; rfl) (mach (fun a e => by cases e)) ?_
      rw [he]
      refine evalArgs_plain (spliced_cons (bindP (ih sc ρ _ _ A s1 env hid E pp (V.up O g u1.kp H.p) u1.g (H.ups O u1) R) fun v s2 d u2 r2 p2 => spliced_nil ⟨trivial, ?_⟩))
      exact endP (u1.trans u2) (meth_call hid' p2 (.cons r2 .nil) u2.g R0)
    | slice v lo hi st sp pos p =>
      refine Subscript_ (bindP (ih sc ρ v _ A s env hid E p V g H R) fun vv s1 d u1 r1 p1 => ?_)
      refine wpAny_Slice ?_
      have V1 := V.up O g u1.kp H.p
      have H1 := H.ups O u1
      refine part_sound O (ih sc ρ) p1 V1 u1.g H1 R fun vl s2 dl u2 r2 p2 => ?_
      have V2 := V1.up O u1.g u2.kp H.p
      have H2 := H1.ups O u2
      refine part_sound O (ih sc ρ) p2 V2 u2.g H2 R fun vu s3 du u3 r3 p3 => ?_
      have V3 := V2.up O u2.g u3.kp H.p
      have H3 := H2.ups O u3
      refine part_sound O (ih sc ρ) p3 V3 u3.g H3 R fun vs s4 ds u4 r4 p4 => ?_
      have H4 := H3.ups O u4
      have u5 : Up Y s4 { s4 with heap := s4.heap.push { cls := .type "slice", data := .fields #[vl, vu, vs] } } := Up.ext O u4.g fun _ _ e => Heap.get?_push_of_some _ e
      have rd := ((((r1.up H.p u2.kp).up H.p u3.kp).up H.p u4.kp).up H.p u5.kp)
      refine endP ((((u1.trans u2).trans u3).trans u4).trans u5) (tail_sound rd (sliceP_kind p4) ?_)
      exact slice_sound O p4 rd (((r2.up H.p u3.kp).up H.p u4.kp).up H.p u5.kp) ((r3.up H.p u4.kp).up H.p u5.kp) (r4.up H.p u5.kp) (Heap.get?_push_size _ rfl) u5.g (H4.ups O u5)
    | item v i pos p =>
      refine Subscript_ (bindP (ih sc ρ _ _ A s env hid E p V g H R) fun va s1 a u1 ra p1 => ?_)
      refine bindP (ih sc ρ _ _ A s1 env hid E p1 (V.up O g u1.kp H.p) u1.g (H.ups O u1) R) fun vb s2 b u2 rb p2 => ?_
      exact endP (u1.trans u2) (tail_sound (ra.up H.p u2.kp) (getP_kind p2) (get_sound p2 (ra.up H.p u2.kp) rb u2.g))
    | list es pos p =>
      refine List_ (wpAny_mono (sndEs O (ih sc ρ) _ _ s p V g H R) (fun vs s1 q => ?_) fun _ _ x => x)
      obtain ⟨u1, ds, r1, q1, q2⟩ := q
      exact endP u1 (wpAny_newList (post_list O u1.g (H.ups O u1) r1 q2) (by rw [r1.length]; exact q1))
    | tuple es kk pos p =>
      refine Tuple_ (wpAny_mono (sndEs O (ih sc ρ) _ _ s p V g H R) (fun vs s1 q => ?_) fun _ _ x => x)
      obtain ⟨u1, ds, r1, q1, q2⟩ := q
      exact endP u1 (wpAny_newTuple (post_tuple O u1.g (H.ups O u1) r1 q2) (by rw [r1.length]; exact q1))
    | comp elt x px iter ifs scope pos p1 p2 p =>
      have K := compOk_of p1
      refine comp_enter (use := none) O (ih sc ρ) p1 p2 (fun d hd e => by rw [e] at hd; exact hd) p V g H R (fun d items I Dd C fp h tk q hit ci => ?_) (fun Dd C s' u fC fD hDC nm rq h' hs => fin_none O Dd C s' u fC fD hDC nm rq h' hs g)
      rw [hit] at q
      obtain ⟨hz, q⟩ := q
      refine comp1_loop O (sn_of O ih) (ci.ap x (K.vars x (by simp)).1 (K.vars x (by simp)).2) rfl rfl R q ci.st (by simpa using hz) fun h' tk' ρ' acc' kx V' g' pl ns q' _ => ?_
      exact ⟨h', tk', acc', rfl, kx, g', pl, ns, q'⟩
    | comp2 elt x px iter y py iter2 scope pos p1 p2 p3 p4 p =>
      have K := compOk_of p1
      refine comp_enter (use := none) O (ih sc ρ) p1 p2 (fun d hd e => by rw [e] at hd; exact hd) p V g H R (fun d items I Dd C fp h tk q hit ci => ?_) (fun Dd C s' u fC fD hDC nm rq h' hs => fin_none O Dd C s' u fC fD hDC nm rq h' hs g)
      rw [hit] at q
      have ay := ci.ap y (K.vars y (by simp)).1 (K.vars y (by simp)).2
      refine comp2_loop O (sn_of O ih) (ci.ap x (K.vars x (by simp)).1 (K.vars x (by simp)).2) ay.hx ay.hxd p3 R q ci.st fun h' tk' acc' kx g' pl ns q' => ?_
      exact ⟨h', tk', acc', rfl, kx, g', pl, ns, q'⟩
end
end Mine
end
section
set_option tactic.hygienic false
open PySem PySem.W PySem.Calls PyProof.Rows
namespace Mine

/-- the names of a frame; at most one list of the frame's own, that may be changed -/
structure Ab where
  vars : List (Str × D)
  own : Option (Str × List D)
  pln : Bool

noncomputable def eraseV (y : Str) (ρ : List (Str × D)) : List (Str × D) := ρ.filter fun p => !(p.1 == y)

noncomputable def Ab.all (σ : Ab) : List (Str × D) := match σ.own with
  | none => σ.vars
  | some (x, xs) => setV x (.list xs) σ.vars
noncomputable def Ab.set (y : Str) (d : D) (σ : Ab) : Ab :=
  ⟨setV y d σ.vars, match σ.own with
    | some (x, xs) => if x == y then none else some (x, xs)
    | none => none, σ.pln⟩
noncomputable def Ab.drop (σ : Ab) : Ab := ⟨σ.all, none, true⟩

inductive Fl where
  | next | brk | cont
  | ret (d : D)

noncomputable def usesL (f : Expr → Bool) : List Expr → Bool
  | [] => false
  | e :: r => f e || usesL f r
noncomputable def usesO (f : Expr → Bool) : Option Expr → Bool
  | none => false
  | some e => f e
/-- whether an expression names a name (may say yes where it does not) -/
noncomputable def usesE (x : Str) : Nat → Expr → Bool
  | 0, _ => true
  | n + 1, e => match e with
    | .Constant _ _ _ => false
    | .Name y _ => y == x
    | .BinOp l _ r _ => usesE x n l || usesE x n r
    | .UnaryOp _ v _ => usesE x n v
    | .Compare l _ cs _ => usesE x n l || usesL (usesE x n) cs
    | .IfExp a b c _ => usesE x n a || usesE x n b || usesE x n c
    | .Call f as [] _ => usesE x n f || usesL (usesE x n) as
    | .Attribute v _ _ => usesE x n v
    | .Subscript v i _ => usesE x n v || usesE x n i
    | .Slice a b c _ => usesO (usesE x n) a || usesO (usesE x n) b || usesO (usesE x n) c
    | .List es _ => usesL (usesE x n) es
    | .Tuple es _ _ => usesL (usesE x n) es
    | _ => true

noncomputable def wpX (T : Tab) (n : Nat) (sc : Scope) (σ : Ab) (e : Expr) (Q : D → Bool → Prop) : Prop := match σ.own with
  | none => wpE T n sc σ.vars e fun d => Q d true
  | some (x, _) => bif usesE x 20 e then wpE T n sc σ.all e fun d => Q d false else wpE T n sc σ.vars e fun d => Q d true

noncomputable def storable (sc : Scope) (y : Str) : Bool := (sc.names.lookup y == some .local || sc.names.lookup y == some .cell) && !(y == ("__debug__" : Str))

/-- a comprehension that is stored before its own names are let go -/
noncomputable def swaps (sc : Scope) (y : Str) (py : Pos) (value : Expr) : Bool := match value with
  | .ListComp _ _ scope p => sc.names.lookup y == some .local && py.line == p.line && !(scope.names.any fun q => q.1 == y && (q.2 == .local || q.2 == .cell))
  | _ => false
noncomputable def okVal (e : Expr) : Bool := !(Nat.beq e.ctorIdx 9 || Nat.beq e.ctorIdx 10)

noncomputable def bindT (sc : Scope) (t : Expr) (d : D) (σ : Ab) : Option Ab := match t with
  | .Name y _ => if storable sc y then some (σ.set y d) else none
  | .Tuple [.Name y _, .Name z _] _ _ => match d with
    | .tuple [a, b] => if storable sc y && storable sc z then some ((σ.set y a).set z b) else none
    | _ => none
  | _ => none

noncomputable def thenS (k : Ab → Prop) (Q : Fl → Ab → Prop) : Fl → Ab → Prop
  | .next, σ => k σ
  | f, σ => Q f σ
noncomputable def contS (k : Ab → Prop) (Q : Fl → Ab → Prop) : Fl → Ab → Prop
  | .next, σ => k σ
  | .cont, σ => k σ
  | .brk, σ => Q .next σ
  | .ret d, σ => Q (.ret d) σ
noncomputable def forP (body : Ab → (Fl → Ab → Prop) → Prop) (orelse : Ab → (Fl → Ab → Prop) → Prop) (bind : D → Ab → Option Ab) : List D → Ab → (Fl → Ab → Prop) → Prop
  | [], σ, Q => orelse σ Q
  | d :: r, σ, Q => (bind d σ).elim False fun σ' => body σ' (contS (fun σ'' => forP body orelse bind r σ'' Q) Q)

noncomputable def okT (sc : Scope) : Expr → Bool
  | .Name y _ => storable sc y
  | .Tuple [.Name y _, .Name z _] _ _ => storable sc y && storable sc z
  | _ => false

noncomputable def noComp : Expr → Bool
  | .ListComp _ _ _ _ => false
  | _ => true
inductive SP (T : Tab) (n : Nat) (w : Stmt → Ab → (Fl → Ab → Prop) → Prop) (ws : List Stmt → Ab → (Fl → Ab → Prop) → Prop) (sc : Scope) (σ : Ab) (Q : Fl → Ab → Prop) : Stmt → Prop
  | setL (y : Str) (py : Pos) (es : List Expr) (lp p : Pos) : storable sc y = true → σ.own = none → (wpEs (wpE T n sc σ.vars) es fun ds => ds.length ≤ sizeLine ∧ (bif ds.all imm then Q .next ⟨eraseV y σ.vars, some (y, ds), true⟩ else Q .next (σ.set y (.list ds)))) → SP T n w ws sc σ Q (.Assign [.Name y py] (.List es lp) p)
  | swap (y : Str) (py : Pos) (v : Expr) (p : Pos) : storable sc y = true → okVal v = true → swaps sc y py v = true → σ.own = none → (wpE T n sc σ.vars v fun d => Q .next (σ.set y d)) → SP T n w ws sc σ Q (.Assign [.Name y py] v p)
  | set (y : Str) (py : Pos) (v : Expr) (p : Pos) : storable sc y = true → okVal v = true → swaps sc y py v = false → (wpX T n sc σ v fun d cl => bif cl || imm d then Q .next (σ.set y d) else Q .next (σ.drop.set y d)) → SP T n w ws sc σ Q (.Assign [.Name y py] v p)
  | sub (x : Str) (px : Pos) (i : Expr) (pi : Pos) (v : Expr) (p : Pos) (xs : List D) : σ.own = some (x, xs) → okVal v = true → xs.length ≤ sizeLine → noComp v = true → (wpE T n sc σ.all v fun d => imm d = true ∧ wpE T n sc σ.all i fun di => match di with
        | .int j => (0 ≤ j ∧ j < xs.length) ∧ Q .next ⟨σ.vars, some (x, xs.set j.toNat d), false⟩
        | _ => False) → SP T n w ws sc σ Q (.Assign [.Subscript (.Name x px) i pi] v p)
  | aug (y : Str) (py : Pos) (v : Expr) (p : Pos) (a : Int) : storable sc y = true → σ.vars.lookup y = some (.int a) → (wpE T n sc σ.vars v fun d => match d with
        | .int b => Q .next (σ.set y (.int (a + b)))
        | _ => False) → SP T n w ws sc σ Q (.AugAssign (.Name y py) .Add v p)
  | app (x : Str) (px ap : Pos) (a : Expr) (cp p : Pos) (xs : List D) : σ.own = some (x, xs) → okArg a = true → (ap.endLine == cp.line) = true → xs.length < sizeLine → σ.pln = true → (wpE T n sc σ.all a fun d => imm d = true ∧ Q .next ⟨σ.vars, some (x, xs ++ [d]), true⟩) → SP T n w ws sc σ Q (.Expr (.Call (.Attribute (.Name x px) (Str.ofString "append") ap) [a] [] cp) p)
  | ret (e : Expr) (p : Pos) : (wpE T n sc σ.all e fun d => Q (.ret d) σ) → SP T n w ws sc σ Q (.Return (some e) p)
  | ite (t : Expr) (b o : List Stmt) (p : Pos) : (wpT (wpE T n sc σ.all) n t fun c => bif c then ws b σ Q else ws o σ Q) → SP T n w ws sc σ Q (.If t b o p)
  | brk (p : Pos) : Q .brk σ → SP T n w ws sc σ Q (.Break p)
  | for (t iter : Expr) (b o : List Stmt) (p : Pos) : okSet iter = true → okT sc t = true → (wpX T n sc σ iter fun d cl => cl = true ∧ (iterD d).elim False fun items => forP (fun σ' => ws b σ') (fun σ' => ws o σ') (bindT sc t) items σ Q) → SP T n w ws sc σ Q (.For t iter b o p)
  | while (t : Expr) (b : List Stmt) (p : Pos) : (wpT (wpE T n sc σ.all) n t fun c => bif c then ws b σ (contS (fun σ' => w (.While t b [] p) σ' Q) Q) else Q .next σ) → SP T n w ws sc σ Q (.While t b [] p)
mutual
noncomputable def wpS (T : Tab) : Nat → Scope → Stmt → Ab → (Fl → Ab → Prop) → Prop
  | 0, _, _, _, _ => False
  | n + 1, sc, st, σ, Q => SP T n (wpS T n sc) (wpSs T n sc) sc σ Q st
noncomputable def wpSs (T : Tab) : Nat → Scope → List Stmt → Ab → (Fl → Ab → Prop) → Prop
  | 0, _, _, _, _ => False
  | n + 1, sc, sts, σ, Q => match sts with
    | [] => Q .next σ
    | st :: r => wpS T n sc st σ (thenS (fun σ' => wpSs T n sc r σ' Q) Q)
end

end Mine
end
section
set_option tactic.hygienic false
open PySem PySem.W PySem.Calls PyProof.Rows
namespace Mine

section
variable {Y : Sys} {T : Tab} {k : Nat} {A : Around} {E : Value → Shared → Prop} {s : Shared} {hid : Addr → Bool} {env : Env} {sc : Scope} {ρ : List (Str × D)}

noncomputable def hidO (hid : Addr → Bool) : Option Addr → Addr → Bool
  | none => hid
  | some a => hide hid a
theorem hidO_p {O : Option Addr} (h : hid Y.P = true) : hidO hid O Y.P = true := by
  cases O with
  | none => exact h
  | some a => exact hide_of h
theorem Rep.unhideO {h : Heap} {O : Option Addr} {v : Value} {d : D} (r : Rep (vis h (hidO hid O)) v d) : Rep (vis h hid) v d := by
  cases O with
  | none => exact r
  | some a => exact r.unhide
theorem Rep.imm {g g' : View} {v : Value} {d : D} (h : Mine.imm d = true) (r : Rep g v d) : Rep g' v d := by
  cases r <;> first | (constructor; done) | cases h
theorem RepL.imm {g g' : View} {vs : List Value} {ds : List D} (h : ds.all Mine.imm = true) (r : RepL g vs ds) : RepL g' vs ds := by
  induction ds generalizing vs with
  | nil => exact RepL.nilE r .nil
  | cons d ds ih =>
    rw [List.all_cons, Bool.and_eq_true] at h
    exact RepL.consE r fun v vs a r => .cons (a.imm h.1) (ih h.2 r)

structure SFr (Y : Sys) (env : Env) : Prop where
  inj : ∀ x y c, env.cells.lookup x = some c → env.cells.lookup y = some c → x = y
  cbase : ∀ x c, env.cells.lookup x = some c → Y.base.get? c = none

noncomputable def OwnOk (Y : Sys) (env : Env) (hid : Addr → Bool) (h : Heap) (pln : Bool) : Option (Str × List D) → Option Addr → Prop
  | none, none => True
  | some (x, xs), some a => (x == ("__debug__" : Str)) = false ∧ VarAt env h x (.ref a) ∧ hid a = false ∧ Y.base.get? a = none ∧ a ∉ Y.cA ∧ xs.all imm = true ∧ ∃ vs : List Value, h.IsList a vs.toArray ∧ (pln = true → h.PlainList a vs.toArray) ∧ RepL (vis h (hide hid a)) vs xs
  | _, _ => False

structure SSt (Y : Sys) (sc : Scope) (env : Env) (hid : Addr → Bool) (h : Heap) (σ : Ab) (O : Option Addr) : Prop where
  V : EnvOk Y sc env h (hidO hid O) σ.vars
  g : Y.G h
  H : HidOk Y hid h
  ns : ∃ m, h.Ns env.locals m
  own : OwnOk Y env hid h σ.pln σ.own O

theorem OwnOk.addr {h : Heap} {pln : Bool} {w : Option (Str × List D)} {a : Addr} (o : OwnOk Y env hid h pln w (some a)) : ∃ x xs, w = some (x, xs) := by
  cases w with
  | none => exact o.elim
  | some p => exact ⟨p.1, p.2, rfl⟩
theorem OwnOk.nil {h : Heap} {pln : Bool} {w : Option (Str × List D)} (o : OwnOk Y env hid h pln w none) : w = none := by
  cases w with
  | none => rfl
  | some p => exact o.elim

theorem SSt.up (Ok : SysOk Y) {h h' : Heap} {σ : Ab} {O : Option Addr} (S : SSt Y sc env hid h σ O) (q : Kp Y.P h h') (g' : Y.G h') : SSt Y sc env hid h' σ O := by
  refine ⟨S.V.up Ok S.g q (hidO_p S.H.p), g', S.H.up q (let ⟨_, e⟩ := Ok.tab _ g'; ⟨_, e⟩), (let ⟨m, n⟩ := S.ns; ⟨m, ns_kp Ok S.g q n⟩), ?_⟩
  have ho := S.own
  cases O with
  | none => rw [ho.nil]; trivial
  | some a =>
    obtain ⟨x, xs, e⟩ := ho.addr
    rw [e] at ho ⊢
    obtain ⟨h1, h2, h3, h4, h5, h6, vs, il, pl, rl⟩ := ho
    have ne := list_notP Ok S.g il
    exact ⟨h1, h2.up Ok S.g q, h3, h4, h5, h6, vs, il.at fun o e => q a o ne e, (fun hp => (pl hp).at fun o e => q a o ne e), rl.up (hide_of S.H.p) q⟩

theorem SSt.hidO (Ok : SysOk Y) {h : Heap} {σ : Ab} {O : Option Addr} (S : SSt Y sc env hid h σ O) : HidOk Y (hidO hid O) h := by
  cases O with
  | none => exact S.H
  | some a =>
    obtain ⟨x, xs, e⟩ := S.own.addr
    have ho := S.own
    rw [e] at ho
    obtain ⟨h1, h2, h3, h4, h5, h6, vs, ⟨o, e, _⟩, pl, rl⟩ := ho
    exact S.H.hide e h5

theorem SSt.all (Ok : SysOk Y) {h : Heap} {σ : Ab} {O : Option Addr} (S : SSt Y sc env hid h σ O) : EnvOk Y sc env h hid σ.all := by
  have ho := S.own
  cases O with
  | none =>
    have e := ho.nil
    unfold Ab.all
    rw [e]
    exact S.V
  | some a =>
    obtain ⟨x, xs, e⟩ := ho.addr
    rw [e] at ho
    obtain ⟨h1, h2, h3, h4, h5, h6, vs, il, pl, rl⟩ := ho
    unfold Ab.all
    rw [e]
    have V := S.V.unhide (a := a)
    refine ⟨V.kind, V.sce, V.glob, V.bui, V.baseL, V.cells, V.cellAt, fun y d he => ?_⟩
    simp only [lookup_setV] at he
    by_cases hy : (y == x) = true
    · have e1 : y = x := by simpa using hy
      subst e1
      simp at he; subst he
      obtain ⟨o, e2, c2, n, d2⟩ := il
      exact ⟨h1, _, h2, .list (vis_of e2 h3) c2 d2 rl.unhide⟩
    · simp only [hy, Bool.false_eq_true, if_false] at he
      exact V.vars y d he

/-- the end of an expression in a frame -/
noncomputable def PostX (Y : Sys) (sc : Scope) (env : Env) (hid : Addr → Bool) (σ : Ab) (O : Option Addr) (s : Shared) (Q : D → Bool → Prop) (v : Value) (s' : Shared) : Prop :=
  Up Y s s' ∧ SSt Y sc env hid s'.heap σ O ∧ ∃ d cl, Rep (vis s'.heap (bif cl then hidO hid O else hid)) v d ∧ Q d cl

set_option tactic.hygienic true in
theorem x_sound (Ok : SysOk Y) (TO : TabOk Y k T) {n : Nat} {σ : Ab} {O : Option Addr} {e : Expr} {Q : D → Bool → Prop} (p : wpX T n sc σ e Q) (S : SSt Y sc env hid s.heap σ O) (R : Room k A) :
    wpAny (model Y.prog Y.w) A (eval e env) (PostX Y sc env hid σ O s Q) E s := by
  unfold wpX at p
  have m2 : wpE T n sc σ.vars e (fun d => Q d true) → wpAny (model Y.prog Y.w) A (eval e env) (PostX Y sc env hid σ O s Q) E s := fun p =>
    bindP (wpE_sound Ok TO n sc σ.vars e _ A s env (Mine.hidO hid O) E p S.V S.g (S.hidO Ok) R) fun v s' d u r q => ⟨u, S.up Ok u.kp u.g, d, true, r, q⟩
  split at p
  · exact m2 p
  · rename_i x xs he
    cases hu : usesE x 20 e with
    | false => rw [hu] at p; exact m2 p
    | true =>
      rw [hu] at p
      exact bindP (wpE_sound Ok TO n sc σ.all e _ A s env hid E p (S.all Ok) S.g S.H R) fun v s' d u r q => ⟨u, S.up Ok u.kp u.g, d, false, r, q⟩

theorem store_var (Ok : SysOk Y) (Fr : SFr Y env) {h : Heap} {y : Str} {v : Value} {R : Unit → Shared → Prop} (V : EnvOk Y sc env s.heap hid ρ) (g : Y.G s.heap) (ns : ∃ m, s.heap.Ns env.locals m) (hs : storable sc y = true)
    (hR : ∀ h' tk p, (p = env.locals ∨ ∃ z, env.cells.lookup z = some p) → (∀ b o, b ≠ p → s.heap.get? b = some o → h'.get? b = some o) → (∃ o, s.heap.get? p = some o ∧ isDat o = false) → VarAt env h' y v →
      (∀ z w, z ≠ y → VarAt env s.heap z w → VarAt env h' z w) → (∃ m, h'.Ns env.locals m) → (∀ z c, env.cells.lookup z = some c → ∃ v, h'.IsCell c v) → Y.G h' → (∃ o, h'.get? p = some o) → R () { s with heap := h', toks := tk }) :
    wpAny (model Y.prog Y.w) A (storeName env y v) R E s := by
  obtain ⟨m, n⟩ := ns
  unfold storable at hs
  simp only [Bool.and_eq_true, Bool.or_eq_true, beq_iff_eq, Bool.not_eq_true'] at hs
  have hk : (env.scope.kind == .class || (env.scope.kind == .module && env.locals != env.globals)) = false := by rw [V.kind]; rfl
  rcases hs.1 with hl | hc
  · have kl : env.kindOf y = some .local := by unfold Env.kindOf; rw [V.sce]; exact hl
    refine wpAny_storeName_local kl n (fun h' n' hs' => ?_) hk
    have kk : ∀ b o, b ≠ env.locals → s.heap.get? b = some o → h'.get? b = some o := fun b o hb e => (hs'.2 b hb).trans e
    refine hR h' _ env.locals (.inl rfl) kk (by obtain ⟨o, es, ep, e, d, _⟩ := n; exact ⟨o, e, by simp [isDat, d]⟩) (.inl ⟨kl, _, n', by simp⟩) (fun z w hz hw => ?_) ⟨_, n'⟩ (fun z c hc => ?_) ?_ (by obtain ⟨o, _, _, e, _⟩ := n'; exact ⟨o, e⟩)
    · rcases hw with ⟨q, m', n2, hm⟩ | ⟨q, hd, c, e2, n2⟩
      · refine .inl ⟨q, _, n', ?_⟩
        rw [if_neg hz, ns_unique n n2]; exact hm
      · obtain ⟨o, e3, d3⟩ := id n2
        exact .inr ⟨q, hd, c, e2, o, kk c o (ns_ne_cell n n2) e3, d3⟩
    · obtain ⟨w, n2⟩ := V.cellAt z c hc
      obtain ⟨o, e3, d3⟩ := id n2
      exact ⟨w, o, kk c o (ns_ne_cell n n2) e3, d3⟩
    · exact Ok.chg _ _ [env.locals] g (fun a ha => by simp at ha; subst ha; exact ⟨V.baseL, ns_notP Ok g n, ns_notCode n⟩) fun b o hb e => kk b o (by simpa using hb) e
  · have kc : env.kindOf y = some .cell := by unfold Env.kindOf; rw [V.sce]; exact hc
    obtain ⟨hcd, c, ec⟩ := V.cells y hc
    obtain ⟨v0, n0⟩ := V.cellAt y c ec
    refine wpAny_storeName_cell V.kind kc ec n0 fun h' n' hs' => ?_
    have kk : ∀ b o, b ≠ c → s.heap.get? b = some o → h'.get? b = some o := fun b o hb e => (hs'.2 b hb).trans e
    refine hR h' _ c (.inr ⟨y, ec⟩) kk (by obtain ⟨o, e, d⟩ := n0; exact ⟨o, e, by simp [isDat, d]⟩) (.inr ⟨.inl kc, hcd, c, ec, n'⟩) (fun z w hz hw => ?_) ⟨m, n.at' fun o e => kk _ o (fun q => ns_ne_cell n n0 q.symm) e⟩ (fun z c' hc' => ?_) ?_ (by obtain ⟨o, e, _⟩ := n'; exact ⟨o, e⟩)
    · rcases hw with ⟨q, m', n2, hm⟩ | ⟨q, hd, c', e2, n2⟩
      · exact .inl ⟨q, m', n2.at' fun o e => kk _ o (fun q => ns_ne_cell n2 n0 q.symm) e, hm⟩
      · obtain ⟨o, e3, d3⟩ := id n2
        exact .inr ⟨q, hd, c', e2, o, kk c' o (by rintro rfl; exact hz (Fr.inj _ _ _ e2 ec)) e3, d3⟩
    · by_cases hcc : c' = c
      · subst hcc; exact ⟨_, n'⟩
      · obtain ⟨w, o, e3, d3⟩ := V.cellAt z c' hc'
        exact ⟨w, o, kk c' o hcc e3, d3⟩
    · exact Ok.chg _ _ [c] g (fun a ha => by rw [List.mem_singleton.mp ha]; exact ⟨Fr.cbase y c ec, cell_notP Ok g n0, cell_notCode n0⟩) fun b o hb e => kk b o (by simpa using hb) e

/-- all is kept but the frame's own -/
noncomputable def KpF (Y : Sys) (env : Env) (O : Option Addr) (h h' : Heap) : Prop :=
  ∀ b o, b ≠ Y.P → (b ≠ env.locals ∧ (∀ z, env.cells.lookup z ≠ some b) ∧ O ≠ some b) → h.get? b = some o → h'.get? b = some o
theorem KpF.refl {O : Option Addr} {h : Heap} : KpF Y env O h h := fun _ _ _ _ e => e
theorem KpF.of {O : Option Addr} {h h' : Heap} (a : Kp Y.P h h') : KpF Y env O h h' := fun x o n _ e => a x o n e

/-- what stands, stands -/
noncomputable def Lv (h h' : Heap) : Prop := ∀ b o, h.get? b = some o → ∃ o', h'.get? b = some o'
theorem Lv.refl {h : Heap} : Lv h h := fun b o e => ⟨o, e⟩
theorem Lv.trans {h h' h'' : Heap} (a : Lv h h') (b : Lv h' h'') : Lv h h'' := fun x o e => let ⟨_, e'⟩ := a x o e; b x _ e'
theorem Lv.kp (Ok : SysOk Y) {h h' : Heap} (q : Kp Y.P h h') (g : Y.G h') : Lv h h' := fun b o e => by
  by_cases hb : b = Y.P
  · subst hb; obtain ⟨_, e1⟩ := Ok.tab _ g; exact ⟨_, e1⟩
  · exact ⟨o, q b o hb e⟩

/-- storing a name in a frame -/
theorem st_store (Ok : SysOk Y) (Fr : SFr Y env) {σ : Ab} {O : Option Addr} {y : Str} {v : Value} {d : D} {R : Unit → Shared → Prop} (S : SSt Y sc env hid s.heap σ O) (hs : storable sc y = true) (r : Rep (vis s.heap (hidO hid O)) v d)
    (hR : ∀ h' tk O', KpF Y env O s.heap h' → Lv s.heap h' → SSt Y sc env hid h' (σ.set y d) O' → (O' = O ∨ O' = none) → R () { s with heap := h', toks := tk }) :
    wpAny (model Y.prog Y.w) A (storeName env y v) R E s := by
  have hyd : (y == ("__debug__" : Str)) = false := by unfold storable at hs; simp only [Bool.and_eq_true, Bool.not_eq_true'] at hs; exact hs.2
  refine store_var (h := s.heap) Ok Fr S.V S.g S.ns hs fun h' tk p hp kk hd hv kv ns' cs' g' lp => ?_
  have kx : KpF Y env O s.heap h' := fun b o _ hb e => kk b o (by
    rintro rfl
    rcases hp with rfl | ⟨z, hz⟩
    · exact hb.1 rfl
    · exact hb.2.1 _ hz) e
  obtain ⟨op, ep, dp⟩ := hd
  have lv : Lv s.heap h' := fun b o e => by
    by_cases hb : b = p
    · subst hb; exact lp
    · exact ⟨o, kk b o hb e⟩
  have rk : ∀ {hid' : Addr → Bool} {v : Value} {d : D}, Rep (vis s.heap hid') v d → Rep (vis h' hid') v d := fun r => r.mono fun b o ho e => by
    obtain ⟨e1, e2⟩ := vis_get e
    refine vis_of (kk b o ?_ e1) e2
    rintro rfl
    rw [ep] at e1; cases e1; rw [dp] at ho; cases ho
  have rkL : ∀ {hid' : Addr → Bool} {v : List Value} {d : List D}, RepL (vis s.heap hid') v d → RepL (vis h' hid') v d := fun r => r.mono fun b o ho e => by
    obtain ⟨e1, e2⟩ := vis_get e
    refine vis_of (kk b o ?_ e1) e2
    rintro rfl
    rw [ep] at e1; cases e1; rw [dp] at ho; cases ho
  have H' : HidOk Y hid h' := ⟨S.H.p, fun b hb => by
    by_cases hbp : b = p
    · subst hbp; exact lp
    · obtain ⟨o, e⟩ := S.H.live b hb; exact ⟨o, kk b o hbp e⟩, S.H.cst⟩
  have V' : EnvOk Y sc env h' (hidO hid O) (setV y d σ.vars) := by
    refine ⟨S.V.kind, S.V.sce, S.V.glob, S.V.bui, S.V.baseL, S.V.cells, cs', fun z e he => ?_⟩
    rw [lookup_setV] at he
    by_cases hz : (z == y) = true
    · have e1 : z = y := by simpa using hz
      subst e1
      simp at he; subst he
      exact ⟨hyd, v, hv, rk r⟩
    · simp only [hz, Bool.false_eq_true, if_false] at he
      obtain ⟨q, w, hw, rw'⟩ := S.V.vars z e he
      exact ⟨q, w, kv z w (by rintro rfl; simp at hz) hw, rk rw'⟩
  have ho := S.own
  cases O with
  | none =>
    have e := ho.nil
    refine hR h' tk none kx lv ⟨V', g', H', ns', ?_⟩ (.inl rfl)
    unfold Ab.set
    rw [e]
    trivial
  | some a =>
    obtain ⟨x, xs, e⟩ := ho.addr
    rw [e] at ho
    obtain ⟨h1, h2, h3, h4, h5, h6, vs, il, pl, rl⟩ := ho
    by_cases hxy : (x == y) = true
    · refine hR h' tk none kx lv ⟨V'.unhide, g', H', ns', ?_⟩ (.inr rfl)
      unfold Ab.set
      rw [e]
      simp only [hxy, if_true]
      trivial
    · refine hR h' tk (some a) kx lv ⟨V', g', H', ns', ?_⟩ (.inl rfl)
      have hxy' : (x == y) = false := by simpa using hxy
      unfold Ab.set
      rw [e]
      simp only [hxy', Bool.false_eq_true, if_false]
      have ne : a ≠ p := by
        rintro rfl
        obtain ⟨o, e2, c2, n, d2⟩ := il
        rw [ep] at e2; cases e2
        simp [isDat, d2] at dp
      exact ⟨h1, kv x _ (by rintro rfl; simp at hxy) h2, h3, h4, h5, h6, vs, il.at fun o e => kk a o ne e, (fun hp => (pl hp).at fun o e => kk a o ne e), rkL rl⟩
end
end Mine
end
section
set_option tactic.hygienic false
open PySem PySem.W PySem.Calls PyProof.Rows
namespace Mine

section
variable {Y : Sys} {T : Tab} {k : Nat} {A : Around} {E : Value → Shared → Prop} {s : Shared} {hid : Addr → Bool} {env : Env} {sc : Scope} {ρ : List (Str × D)}

noncomputable def FlR (h : Heap) (hid : Addr → Bool) : Flow → Fl → Prop
  | .next, .next => True
  | .brk, .brk => True
  | .cont, .cont => True
  | .ret v, .ret d => Rep (vis h hid) v d
  | _, _ => False

noncomputable def PostS (Y : Sys) (sc : Scope) (env : Env) (hid : Addr → Bool) (O : Option Addr) (s : Shared) (Q : Fl → Ab → Prop) (fl : Flow) (s' : Shared) : Prop :=
  ∃ h' tk σ' O' f, s' = { s with heap := h', toks := tk } ∧ KpF Y env O s.heap h' ∧ Lv s.heap h' ∧ SSt Y sc env hid h' σ' O' ∧ (∀ a, O' = some a → O = some a ∨ s.heap.get? a = none) ∧ FlR h' hid fl f ∧ Q f σ'

theorem kpx_trans {O O1 : Option Addr} {h h1 h2 : Heap} (a : KpF Y env O h h1) (c : ∀ a, O1 = some a → O = some a ∨ h.get? a = none) (b : KpF Y env O1 h1 h2) : KpF Y env O h h2 := fun x o n m e => by
  refine b x o n ⟨m.1, m.2.1, fun hm => ?_⟩ (a x o n m e)
  rcases c x hm with e2 | e2
  · exact m.2.2 e2
  · rw [e2] at e; cases e
theorem own_trans {O O1 O2 : Option Addr} {h h1 : Heap} (lv : Lv h h1) (c : ∀ a, O1 = some a → O = some a ∨ h.get? a = none) (d : ∀ a, O2 = some a → O1 = some a ∨ h1.get? a = none) : ∀ a, O2 = some a → O = some a ∨ h.get? a = none := fun a ha => by
  rcases d a ha with q | q
  · exact c a q
  · refine .inr ?_
    cases e : h.get? a with
    | none => rfl
    | some o => obtain ⟨o', e'⟩ := lv a o e; rw [q] at e'; cases e'

theorem PostS.after {O O1 : Option Addr} {s1 : Shared} {h1 : Heap} {tk1 : Nat} {Q : Fl → Ab → Prop} {fl : Flow} {s' : Shared} (e : s1 = { s with heap := h1, toks := tk1 }) (a : KpF Y env O s.heap h1) (lv : Lv s.heap h1) (c : ∀ a, O1 = some a → O = some a ∨ s.heap.get? a = none)
    (p : PostS Y sc env hid O1 s1 Q fl s') : PostS Y sc env hid O s Q fl s' := by
  subst e
  obtain ⟨h', tk, σ', O', f, rfl, kx, lv', S, c', fr, q⟩ := p
  exact ⟨h', tk, σ', O', f, rfl, kpx_trans a c kx, lv.trans lv', S, own_trans lv c c', fr, q⟩
theorem PostS.upx (Ok : SysOk Y) {O : Option Addr} {s1 : Shared} {Q : Fl → Ab → Prop} {fl : Flow} {s' : Shared} (u : Up Y s s1) (p : PostS Y sc env hid O s1 Q fl s') : PostS Y sc env hid O s Q fl s' := by
  obtain ⟨h1, tk1, rfl, kp, g⟩ := id u
  exact p.after rfl (KpF.of kp) (Lv.kp Ok kp g) fun a e => .inl e

@[elab_as_elim] theorem PostS.elim {O : Option Addr} {Q : Fl → Ab → Prop} {C : Flow → Shared → Prop} {fl : Flow} {s' : Shared} (p : PostS Y sc env hid O s Q fl s')
    (hn : ∀ h' tk σ' O', KpF Y env O s.heap h' → Lv s.heap h' → SSt Y sc env hid h' σ' O' → (∀ a, O' = some a → O = some a ∨ s.heap.get? a = none) → Q .next σ' → C .next { s with heap := h', toks := tk })
    (hb : ∀ h' tk σ' O', KpF Y env O s.heap h' → Lv s.heap h' → SSt Y sc env hid h' σ' O' → (∀ a, O' = some a → O = some a ∨ s.heap.get? a = none) → Q .brk σ' → C .brk { s with heap := h', toks := tk })
    (hc : ∀ h' tk σ' O', KpF Y env O s.heap h' → Lv s.heap h' → SSt Y sc env hid h' σ' O' → (∀ a, O' = some a → O = some a ∨ s.heap.get? a = none) → Q .cont σ' → C .cont { s with heap := h', toks := tk })
    (hr : ∀ h' tk σ' O' v d, KpF Y env O s.heap h' → Lv s.heap h' → SSt Y sc env hid h' σ' O' → (∀ a, O' = some a → O = some a ∨ s.heap.get? a = none) → Rep (vis h' hid) v d → Q (.ret d) σ' → C (.ret v) { s with heap := h', toks := tk }) : C fl s' := by
  obtain ⟨h', tk, σ', O', f, rfl, kx, lv, S, c, fr, q⟩ := p
  cases fl <;> cases f <;> first | exact fr.elim | exact hn h' tk σ' O' kx lv S c q | exact hb h' tk σ' O' kx lv S c q | exact hc h' tk σ' O' kx lv S c q | exact hr h' tk σ' O' _ _ kx lv S c fr q
theorem PostS.next {O O' : Option Addr} {Q : Fl → Ab → Prop} {h' : Heap} {tk : Tok} {σ' : Ab} (kx : KpF Y env O s.heap h') (lv : Lv s.heap h') (S : SSt Y sc env hid h' σ' O') (c : ∀ a, O' = some a → O = some a ∨ s.heap.get? a = none) (q : Q .next σ') : PostS Y sc env hid O s Q .next { s with heap := h', toks := tk } := ⟨h', tk, σ', O', .next, rfl, kx, lv, S, c, trivial, q⟩
theorem PostS.brk {O O' : Option Addr} {Q : Fl → Ab → Prop} {h' : Heap} {tk : Tok} {σ' : Ab} (kx : KpF Y env O s.heap h') (lv : Lv s.heap h') (S : SSt Y sc env hid h' σ' O') (c : ∀ a, O' = some a → O = some a ∨ s.heap.get? a = none) (q : Q .brk σ') : PostS Y sc env hid O s Q .brk { s with heap := h', toks := tk } := ⟨h', tk, σ', O', .brk, rfl, kx, lv, S, c, trivial, q⟩
theorem PostS.cont {O O' : Option Addr} {Q : Fl → Ab → Prop} {h' : Heap} {tk : Tok} {σ' : Ab} (kx : KpF Y env O s.heap h') (lv : Lv s.heap h') (S : SSt Y sc env hid h' σ' O') (c : ∀ a, O' = some a → O = some a ∨ s.heap.get? a = none) (q : Q .cont σ') : PostS Y sc env hid O s Q .cont { s with heap := h', toks := tk } := ⟨h', tk, σ', O', .cont, rfl, kx, lv, S, c, trivial, q⟩
theorem PostS.ret {O O' : Option Addr} {Q : Fl → Ab → Prop} {h' : Heap} {tk : Tok} {σ' : Ab} {v : Value} {d : D} (kx : KpF Y env O s.heap h') (lv : Lv s.heap h') (S : SSt Y sc env hid h' σ' O') (c : ∀ a, O' = some a → O = some a ∨ s.heap.get? a = none) (fr : Rep (vis h' hid) v d) (q : Q (.ret d) σ') : PostS Y sc env hid O s Q (.ret v) { s with heap := h', toks := tk } := ⟨h', tk, σ', O', .ret d, rfl, kx, lv, S, c, fr, q⟩
theorem PostS.here {O : Option Addr} {Q : Fl → Ab → Prop} {σ : Ab} (S : SSt Y sc env hid s.heap σ O) (q : Q .next σ) : PostS Y sc env hid O s Q .next s := ⟨s.heap, s.toks, σ, O, .next, rfl, KpF.refl, Lv.refl, S, fun a e => .inl e, trivial, q⟩

/-- soundness of statements at a depth -/
noncomputable def SndS (Y : Sys) (k : Nat) (T : Tab) (n : Nat) : Prop :=
  ∀ (sc : Scope) (st : Stmt) (σ : Ab) (Q : Fl → Ab → Prop) (A : Around) (s : Shared) (env : Env) (hid : Addr → Bool) (O : Option Addr) (E : Value → Shared → Prop),
    wpS T n sc st σ Q → SFr Y env → SSt Y sc env hid s.heap σ O → Room k A → wpAny (model Y.prog Y.w) A (exec st env) (PostS Y sc env hid O s Q) E s
noncomputable def SndSs (Y : Sys) (k : Nat) (T : Tab) (n : Nat) : Prop :=
  ∀ (sc : Scope) (sts : List Stmt) (σ : Ab) (Q : Fl → Ab → Prop) (A : Around) (s : Shared) (env : Env) (hid : Addr → Bool) (O : Option Addr) (E : Value → Shared → Prop),
    wpSs T n sc sts σ Q → SFr Y env → SSt Y sc env hid s.heap σ O → Room k A → wpAny (model Y.prog Y.w) A (execs sts env) (PostS Y sc env hid O s Q) E s

theorem sndSs_succ {n : Nat} (h1 : SndS Y k T n) (h2 : SndSs Y k T n) : SndSs Y k T (n + 1) := by
  intro sc sts σ Q A s env hid O E p F S R
  cases sts with
  | nil => exact wpAny_execs_nil (PostS.here S p)
  | cons st r =>
    refine wpAny_execs_cons (wpAny_mono (h1 sc _ σ _ A s env hid O E p F S R) (fun fl s1 q => ?_) fun _ _ x => x)
    refine PostS.elim q (fun h' tk σ' O' kx lv S' c q => ?_) (fun h' tk σ' O' kx lv S' c q => .brk kx lv S' c q) (fun h' tk σ' O' kx lv S' c q => .cont kx lv S' c q) fun h' tk σ' O' v d kx lv S' c fr q => .ret kx lv S' c fr q
    exact wpAny_mono (h2 sc _ σ' Q A _ env hid O' E q F S' R) (fun _ _ z => z.after rfl kx lv c) fun _ _ x => x

/-- storing, as the end of a statement -/
theorem post_store (Ok : SysOk Y) (F : SFr Y env) {σ : Ab} {O : Option Addr} {y : Str} {v : Value} {d : D} {Q : Fl → Ab → Prop} (S : SSt Y sc env hid s.heap σ O) (hs : storable sc y = true) (r : Rep (vis s.heap (hidO hid O)) v d) (q : Q .next (σ.set y d)) :
    wpAny (model Y.prog Y.w) A (storeName env y v) (fun _ => PostS Y sc env hid O s Q .next) E s :=
  st_store Ok F S hs r fun h' tk O' kx lv S' c => ⟨h', tk, σ.set y d, O', .next, rfl, kx, lv, S', fun a e => .inl (by
    rcases c with c | c
    · rw [← c]; exact e
    · rw [c] at e; cases e), trivial, q⟩

theorem SSt.drop (Ok : SysOk Y) {h : Heap} {σ : Ab} {O : Option Addr} (S : SSt Y sc env hid h σ O) : SSt Y sc env hid h σ.drop none :=
  ⟨S.all Ok, S.g, S.H, S.ns, trivial⟩

set_option tactic.hygienic true in
theorem swaps_eq (V : EnvOk Y sc env s.heap hid ρ) {y : Str} {py : Pos} {value : Expr} (n : Nat) (hv : okVal value = true) : swapsWith value (some (.Name y py)) n env = pure (swaps sc y py value) := by
  have hb : env.blockKind = .function := by unfold Env.blockKind; rw [V.kind]; rfl
  cases value <;> first | rfl | (cases hv; done) | skip
  rename_i elt gens scope p
  show (pure (env.blockKind == .function && env.kindOf y == some .local && py.line == p.line && !(scope.names.any fun (n, k) => n == y && (k == .local || k == .cell))) : Sem Bool) = _
  unfold swaps Env.kindOf
  rw [hb, V.sce]
  rfl
end
theorem gen_post {α : Type} {M : Model} {A : Around} {m : Sem α} {E : Value → Shared → Prop} {s : Shared} {POST : α → Shared → Prop} (H : (α → Shared → Prop) → Prop) (h : H POST) (k : ∀ R, H R → wpAny M A m R E s) : wpAny M A m POST E s := k POST h
theorem gen_err {α : Type} {M : Model} {A : Around} {m : Sem α} {E : Value → Shared → Prop} {s : Shared} {Q : α → Shared → Prop} (k : ∀ E1, wpAny M A m Q E1 s) : wpAny M A m Q E s := k E
theorem at_toks {α : Type} {M : Model} {A : Around} {m : Sem α} {E : Value → Shared → Prop} {s : Shared} {h : Heap} {t : Tok} {Q : α → Shared → Prop} (k : ∀ tk, wpAny M A m Q E { s with heap := h, toks := tk }) : wpAny M A m Q E { s with heap := h, toks := t } := k t
theorem lkE {C : Str → D → Prop} {y : Str} {e : D} {r : List (Str × D)} (h : C y e) (k : ∀ x d, List.lookup x r = some d → C x d) (x : Str) (d : D) (q : List.lookup x ((y, e) :: r) = some d) : C x d := by
  rw [List.lookup_cons] at q
  cases hc : x == y with
  | true => rw [hc] at q; cases q; rw [eq_of_beq hc]; exact h
  | false => rw [hc] at q; exact k x d q
theorem lkN {C : Str → D → Prop} (x : Str) (d : D) (q : List.lookup x ([] : List (Str × D)) = some d) : C x d := by cases q
theorem mem1E {e : Addr} {C : Addr → Prop} (h : C e) (b : Addr) (hb : b ∈ [e]) : C b := List.mem_singleton.mp hb ▸ h
theorem nm1 {b e : Addr} (h : b ∉ [e]) : b ≠ e := fun q => h (q ▸ .head _)
end Mine
end
section
set_option tactic.hygienic false
open PySem PySem.W PySem.Calls PyProof.Rows
namespace Mine

section
variable {Y : Sys} {T : Tab} {k : Nat} {A : Around} {E : Value → Shared → Prop} {s : Shared} {hid : Addr → Bool} {env : Env} {sc : Scope} {ρ : List (Str × D)}

theorem c_assign (Ok : SysOk Y) (TO : TabOk Y k T) {n : Nat} {σ : Ab} {O : Option Addr} {y : Str} {py pos : Pos} {value : Expr} {Q : Fl → Ab → Prop} (hs : storable sc y = true) (hv : okVal value = true) (hw : swaps sc y py value = false)
    (p : wpX T n sc σ value fun d cl => bif cl || imm d then Q .next (σ.set y d) else Q .next (σ.drop.set y d)) (F : SFr Y env) (S : SSt Y sc env hid s.heap σ O) (R : Room k A) :
    wpAny (model Y.prog Y.w) A (exec (.Assign [.Name y py] value pos) env) (PostS Y sc env hid O s Q) E s := by
  refine wpAny_Assign_Name (wpAny_mono (x_sound Ok TO p S R) (fun v s1 q => ?_) fun _ _ x => x) (by rw [swaps_eq S.V _ hv, hw])
  obtain ⟨u, S1, d, cl, r, q⟩ := q
  cases hc : (cl || imm d) with
  | true =>
    rw [hc] at q
    have r' : Rep (vis s1.heap (hidO hid O)) v d := by
      cases cl with
      | true => exact r
      | false => exact r.imm (by simpa using hc)
    exact wpAny_mono (post_store Ok F S1 hs r' q) (fun _ _ z => z.upx Ok u) fun _ _ x => x
  | false =>
    rw [hc] at q
    have hcl : cl = false := by cases cl with | false => rfl | true => simp at hc
    subst hcl
    obtain ⟨h1, tk1, rfl, kp, g⟩ := id u
    exact wpAny_mono (post_store Ok F (S1.drop Ok) hs r q) (fun _ _ z => z.after rfl (KpF.of kp) (Lv.kp Ok kp g) fun a e => by cases e) fun _ _ x => x

theorem intM {K : Int → Prop} {d : D} (q : match d with | .int b => K b | _ => False) : ∃ b, d = .int b ∧ K b := by cases d <;> first | exact q.elim | exact ⟨_, rfl, q⟩
theorem lookup_erase {y z : Str} : (eraseV y ρ).lookup z = if z == y then none else ρ.lookup z := by
  unfold eraseV
  rw [lookup_filter (p := fun q => !(q == y))]
  by_cases h : (z == y) = true
  · simp [h]
  · simp [h]

theorem c_list (Ok : SysOk Y) (TO : TabOk Y k T) {n : Nat} {σ : Ab} {O : Option Addr} {y : Str} {py pos lp : Pos} {es : List Expr} {Q : Fl → Ab → Prop} (hs : storable sc y = true) (ho : σ.own = none)
    (p : wpEs (wpE T n sc σ.vars) es fun ds => ds.length ≤ sizeLine ∧ (bif ds.all imm then Q .next ⟨eraseV y σ.vars, some (y, ds), true⟩ else Q .next (σ.set y (.list ds)))) (F : SFr Y env) (S : SSt Y sc env hid s.heap σ O) (R : Room k A) :
    wpAny (model Y.prog Y.w) A (exec (.Assign [.Name y py] (.List es lp) pos) env) (PostS Y sc env hid O s Q) E s := by
  have hO : O = none := by
    cases O with
    | none => rfl
    | some a => obtain ⟨x, xs, e⟩ := S.own.addr; rw [ho] at e; cases e
  subst hO
  have hyd : (y == ("__debug__" : Str)) = false := by unfold storable at hs; simp only [Bool.and_eq_true, Bool.not_eq_true'] at hs; exact hs.2
  refine wpAny_Assign_Name (List_ (wpAny_mono (sndEs Ok (wpE_sound Ok TO n sc σ.vars) es _ s p S.V S.g S.H R) (fun vs s1 q => ?_) fun _ _ x => x)) rfl
  obtain ⟨u, ds, r, hz, q⟩ := q
  have S1 := S.up Ok u.kp u.g
  refine wpAny_newList ?_ (by rw [r.length]; exact hz)
  have u2 : Up Y s1 { s1 with heap := s1.heap.push { cls := .type "list", data := .seq vs.toArray } } := Up.ext Ok u.g fun _ _ e => Heap.get?_push_of_some _ e
  have S2 := S1.up Ok u2.kp u2.g
  have fD : s1.heap.get? s1.heap.objs.size = none := get_size _
  have hD : hid s1.heap.objs.size = false := S1.H.fresh fD
  have eD : (s1.heap.push { cls := .type "list", data := .seq vs.toArray }).get? s1.heap.objs.size = some { cls := .type "list", data := .seq vs.toArray } := Heap.get?_push_size _ rfl
  cases hi : ds.all imm with
  | false =>
    rw [hi] at q
    exact wpAny_mono (post_store (s := { s1 with heap := s1.heap.push { cls := .type "list", data := .seq vs.toArray } }) Ok F S2 hs (.list (vis_of eD hD) rfl rfl (r.mono fun b o _ e => vis_push _ b o e)) q) (fun _ _ z => z.upx Ok (u.trans u2)) fun _ _ x => x
  | true =>
    rw [hi] at q
    have V2 : EnvOk Y sc env (s1.heap.push { cls := .type "list", data := .seq vs.toArray }) (hide hid s1.heap.objs.size) σ.vars :=
      EnvOk.up (h := s1.heap) Ok (EnvOk.hide S1.V fD) u.g u2.kp (hide_of S.H.p)
    refine store_var (s := { s1 with heap := s1.heap.push { cls := .type "list", data := .seq vs.toArray } }) (h := s1.heap) Ok F V2 u2.g S2.ns hs fun h' tk p hp kk hd hv kv ns' cs' g' lp => ?_
    obtain ⟨op, ep, dp⟩ := hd
    have neD : s1.heap.objs.size ≠ p := by
      rintro rfl
      rw [eD] at ep; cases ep; cases dp
    have u12 := u.trans u2
    obtain ⟨h2, tk2, e2, kp2, g2⟩ := id u12
    refine ⟨h', tk, ⟨eraseV y σ.vars, some (y, ds), true⟩, some s1.heap.objs.size, .next, ?_, ?_, ?_, ⟨?_, g', ?_, ns', ?_⟩, fun a e => ?_, trivial, q⟩
    · obtain ⟨h1, tk1, rfl, _, _⟩ := u; rfl
    · intro b o hP hb e
      exact kk b o (by
        rintro rfl
        rcases hp with rfl | ⟨z, hz⟩
        · exact hb.1 rfl
        · exact hb.2.1 _ hz) (u12.kp b o hP e)
    · intro b o e
      by_cases hbp : b = p
      · subst hbp; exact lp
      · obtain ⟨o', e'⟩ := Lv.kp Ok u12.kp u12.g b o e
        exact ⟨o', kk b o' hbp e'⟩
    · refine ⟨S.V.kind, S.V.sce, S.V.glob, S.V.bui, S.V.baseL, S.V.cells, cs', fun z d he => ?_⟩
      rw [lookup_erase] at he
      by_cases hz : (z == y) = true
      · simp [hz] at he
      · simp only [hz, Bool.false_eq_true, if_false] at he
        obtain ⟨a, w, hw, rw'⟩ := V2.vars z d he
        refine ⟨a, w, kv z w (by rintro rfl; simp at hz) hw, rw'.mono fun b o ho e => ?_⟩
        obtain ⟨e1, e2⟩ := vis_get e
        refine vis_of (kk b o ?_ e1) e2
        rintro rfl
        change (s1.heap.push { cls := .type "list", data := .seq vs.toArray }).get? b = some op at ep
        rw [ep] at e1; cases e1; rw [dp] at ho; cases ho
    · refine ⟨S.H.p, fun b hb => ?_, S.H.cst⟩
      by_cases hbp : b = p
      · subst hbp; exact lp
      · obtain ⟨o, e⟩ := S2.H.live b hb
        exact ⟨o, kk b o hbp e⟩
    · have eD' := kk _ _ neD eD
      exact ⟨hyd, hv, hD, Ok.fresh _ _ u.g fD, fresh_notC Ok u.g fD, hi, vs, ⟨_, eD', rfl, _, rfl⟩, (fun _ => ⟨_, eD'⟩), r.imm hi⟩
    · cases e
      refine .inr ?_
      cases e3 : s.heap.get? s1.heap.objs.size with
      | none => rfl
      | some o =>
        have hP : s1.heap.objs.size ≠ Y.P := fun q => by
          obtain ⟨_, e4⟩ := Ok.tab _ u.g
          rw [← q, fD] at e4; cases e4
        have := u.kp _ _ hP e3
        rw [fD] at this; cases this

theorem c_aug (Ok : SysOk Y) (TO : TabOk Y k T) {n : Nat} {σ : Ab} {O : Option Addr} {y : Str} {py pos : Pos} {value : Expr} {a : Int} {Q : Fl → Ab → Prop} (hs : storable sc y = true) (hy : σ.vars.lookup y = some (.int a))
    (p : wpE T n sc σ.vars value fun d => match d with | .int b => Q .next (σ.set y (.int (a + b))) | _ => False) (F : SFr Y env) (S : SSt Y sc env hid s.heap σ O) (R : Room k A) :
    wpAny (model Y.prog Y.w) A (exec (.AugAssign (.Name y py) .Add value pos) env) (PostS Y sc env hid O s Q) E s := by
  obtain ⟨q0, v, hv, r⟩ := S.V.vars y _ hy
  obtain ⟨ta, rfl⟩ := r.int_
  refine wpAny_AugAssign_Name ?_
  have ld : ∀ {R : Value → Shared → Prop}, R (.int a ta) s → wpAny (model Y.prog Y.w) A (loadName env y) R E s := by
    intro R hr
    rcases hv with ⟨q, m, n, hm⟩ | ⟨q, hc, c, e, n⟩
    · exact wpAny_loadName_local S.V.kind q n hm hr
    · rcases q with q | q
      · exact wpAny_loadName_cell S.V.kind q e n hr
      · exact wpAny_loadName_free S.V.kind q e n hr hc
  refine ld (bindP (wpE_sound Ok TO n sc σ.vars value _ A s env (hidO hid O) E p S.V S.g (S.hidO Ok) R) fun v1 s1 d u r1 q => ?_)
  obtain ⟨b, rfl, q⟩ := intM q
  refine r1.intE fun tb => wpAny_iadd_int ?_
  have u2 : Up Y s1 { s1 with toks := s1.toks + 1 } := Up.toks u.g _
  exact wpAny_mono (post_store (s := { s1 with toks := s1.toks + 1 }) Ok F (S.up Ok u.kp u.g) hs (.int _ _) q) (fun _ _ z => z.upx Ok (u.trans u2)) fun _ _ x => x

theorem own_some {σ : Ab} {O : Option Addr} {x : Str} {xs : List D} {h : Heap} (S : SSt Y sc env hid h σ O) (e : σ.own = some (x, xs)) : ∃ a, O = some a ∧ (x == ("__debug__" : Str)) = false ∧ VarAt env h x (.ref a) ∧ hid a = false ∧ Y.base.get? a = none ∧ a ∉ Y.cA ∧ xs.all imm = true ∧
    ∃ vs : List Value, h.IsList a vs.toArray ∧ (σ.pln = true → h.PlainList a vs.toArray) ∧ RepL (vis h (hide hid a)) vs xs := by
  have ho := S.own
  cases O with
  | none => have := ho.nil; rw [e] at this; cases this
  | some a => rw [e] at ho; exact ⟨a, rfl, ho⟩

/-- the frame's own list is changed -/
theorem own_chg (Ok : SysOk Y) {σ : Ab} {a : Addr} {x : Str} {xs ys : List D} {h h' : Heap} {pln : Bool} {ws : List Value} (S : SSt Y sc env hid h σ (some a)) (e : σ.own = some (x, xs)) (hs : Heap.SameBut a h h') (il : h'.IsList a ws.toArray) (pl : pln = true → h'.PlainList a ws.toArray)
    (hi : ys.all imm = true) (r : ∀ g, RepL g ws ys) : SSt Y sc env hid h' ⟨σ.vars, some (x, ys), pln⟩ (some a) ∧ KpF Y env (some a) h h' ∧ Lv h h' := by
  obtain ⟨a', ea, h1, h2, h3, h4, h5, h6, vs, il0, pl0, rl⟩ := own_some S e
  cases ea
  have kk : ∀ b o, b ≠ a → h.get? b = some o → h'.get? b = some o := fun b o hb e => (hs.2 b hb).trans e
  obtain ⟨m, nm⟩ := S.ns
  have La : env.locals ≠ a := by
    rintro rfl
    obtain ⟨o, e1, _, _, d1⟩ := il0
    obtain ⟨o', es, ep, e2, d2, _⟩ := nm
    rw [e1] at e2; cases e2; rw [d1] at d2; cases d2
  have ca : ∀ c v, h.IsCell c v → c ≠ a := by
    rintro c v ⟨o, e1, d1⟩ rfl
    obtain ⟨o', e2, _, _, d2⟩ := il0
    rw [e1] at e2; cases e2; rw [d1] at d2; cases d2
  have va : ∀ z w, VarAt env h z w → VarAt env h' z w := by
    intro z w hw
    rcases hw with ⟨q, m', n2, hm⟩ | ⟨q, hd, c, e2, n2⟩
    · exact .inl ⟨q, m', n2.at' fun o e => kk _ o La e, hm⟩
    · obtain ⟨o, e3, d3⟩ := id n2
      exact .inr ⟨q, hd, c, e2, o, kk c o (ca c _ n2) e3, d3⟩
  have lv : Lv h h' := fun b o e => by
    by_cases hb : b = a
    · subst hb; obtain ⟨o', e', _⟩ := il; exact ⟨o', e'⟩
    · exact ⟨o, kk b o hb e⟩
  refine ⟨⟨?_, ?_, ?_, ⟨m, nm.at' fun o e => kk _ o La e⟩, ?_⟩, ?_, lv⟩
  · refine S.V.keep (fun o e => kk _ o La e) (fun z c o hc e => ?_) fun b o hb e _ => kk b o (hide_false hb).2 e
    obtain ⟨v, n2⟩ := S.V.cellAt z c hc
    exact kk c o (ca c v n2) e
  · exact Ok.chg h h' [a] S.g (fun b hb => by rw [List.mem_singleton.mp hb]; exact ⟨h4, list_notP Ok S.g il0, list_notCode il0⟩) fun b o hb e => kk b o (by simpa using hb) e
  · exact ⟨S.H.p, fun b hb => by obtain ⟨o, e⟩ := S.H.live b hb; exact lv b o e, S.H.cst⟩
  · exact ⟨h1, va x _ h2, h3, h4, h5, hi, ws, il, pl, r _⟩
  · exact fun b o _ hb e => kk b o (fun q => hb.2.2 (by rw [q])) e

theorem RepL.set {g : View} {v : Value} {d : D} (h : Rep g v d) : ∀ {vs : List Value} {ds : List D} (i : Nat), RepL g vs ds → RepL g (vs.set i v) (ds.set i d)
  | _, _, _, .nil => by simpa using RepL.nil
  | _, _, 0, .cons a r => .cons h r
  | _, _, i + 1, .cons a r => .cons a (RepL.set h i r)

theorem c_sub (Ok : SysOk Y) (TO : TabOk Y k T) {n : Nat} {σ : Ab} {O : Option Addr} {x : Str} {px pi pos : Pos} {i value : Expr} {xs : List D} {Q : Fl → Ab → Prop} (ho : σ.own = some (x, xs)) (hv : okVal value = true) (hz : xs.length ≤ sizeLine) (hnl : ∀ a b c d, value ≠ .ListComp a b c d)
    (p : wpE T n sc σ.all value fun d => imm d = true ∧ wpE T n sc σ.all i fun di => match di with | .int j => (0 ≤ j ∧ j < xs.length) ∧ Q .next ⟨σ.vars, some (x, xs.set j.toNat d), false⟩ | _ => False) (F : SFr Y env) (S : SSt Y sc env hid s.heap σ O) (R : Room k A) :
    wpAny (model Y.prog Y.w) A (exec (.Assign [.Subscript (.Name x px) i pi] value pos) env) (PostS Y sc env hid O s Q) E s := by
  refine wpAny_Assign_Subscript (bindP (wpE_sound Ok TO n sc σ.all value _ A s env hid E p (S.all Ok) S.g S.H R) fun v s1 d u1 r1 ⟨hi, p1⟩ => ?_) (by cases value <;> first | rfl | (cases hv; done) | exact (hnl _ _ _ _ rfl).elim)
  have S1 := S.up Ok u1.kp u1.g
  obtain ⟨a, ea, h1, h2, h3, h4, h5, h6, vs, il0, pl0, rl⟩ := own_some S1 ho
  subst ea
  refine load_var (S1.all Ok) h1 h2 ?_
  refine bindP (wpE_sound Ok TO n sc σ.all i _ A s1 env hid E p1 (S1.all Ok) u1.g S1.H R) fun vi s2 di u2 r2 p2 => ?_
  obtain ⟨j, rfl, ⟨j0, j1⟩, q⟩ := intM p2
  obtain ⟨tj, rfl⟩ := r2.int_
  have S2 := S1.up Ok u2.kp u2.g
  obtain ⟨a', ea, g1, g2, g3, g4, g5, g6, ws, il, pl, rl2⟩ := own_some S2 ho
  cases ea
  have hlen : ws.length = xs.length := rl2.length
  refine wpAny_setItem_list il j0 (by have := sizeLine_lt; omega) (by simp [hlen]; exact j1) fun h' il' hs' => ?_
  have e3 : ws.toArray.setIfInBounds j.toNat v = (ws.set j.toNat v).toArray := by simp
  rw [e3] at il'
  have hall : (xs.set j.toNat d).all imm = true := by
    rw [List.all_eq_true] at g6 ⊢
    intro z hz
    rcases List.mem_or_eq_of_mem_set hz with hz | rfl
    · exact g6 z hz
    · exact hi
  obtain ⟨S3, kx3, lv3⟩ := own_chg (ys := xs.set j.toNat d) (pln := false) Ok S2 ho hs' il' (fun q => by cases q) hall fun g => RepL.set (r1.imm hi) _ (rl2.imm g6)
  have u := u1.trans u2
  exact PostS.upx Ok u ⟨h', s2.toks, _, some a, .next, rfl, kx3, lv3, S3, fun b e => .inl e, trivial, q⟩

theorem c_append (Ok : SysOk Y) (TO : TabOk Y k T) {n : Nat} {σ : Ab} {O : Option Addr} {x : Str} {px ap cp pos : Pos} {e : Expr} {xs : List D} {Q : Fl → Ab → Prop} (ho : σ.own = some (x, xs)) (he : okArg e = true) (hl : (ap.endLine == cp.line) = true) (hz : xs.length < sizeLine) (hp : σ.pln = true)
    (p : wpE T n sc σ.all e fun d => imm d = true ∧ Q .next ⟨σ.vars, some (x, xs ++ [d]), true⟩) (F : SFr Y env) (S : SSt Y sc env hid s.heap σ O) (R : Room k A) :
    wpAny (model Y.prog Y.w) A (exec (.Expr (.Call (.Attribute (.Name x px) (Str.ofString "append") ap) [e] [] cp) pos) env) (PostS Y sc env hid O s Q) E s := by
  have hint : interactive env = false := by unfold interactive; rw [S.V.kind]; rfl
  have he' : starEach [e] env = [(false, eval e env)] := by cases e <;> first | rfl | cases he
  refine wpAny_Expr_any (wpAny_Call_append rfl (by rw [he']; rfl) hl (by rw [he']; rfl) ?_) hint rfl
  obtain ⟨a, ea, h1, h2, h3, h4, h5, h6, vs, il0, pl0, rl⟩ := own_some S ho
  subst ea
  obtain ⟨n0, e0⟩ := id (pl0 hp)
  refine load_var (S.all Ok) h1 h2 ⟨a, vs.toArray, rfl, ⟨_, n0, e0, rfl, rfl, rfl⟩, ?_⟩
  refine bindP (wpE_sound Ok TO n sc σ.all e _ A s env hid E p (S.all Ok) S.g S.H R) fun v s1 d u1 r1 ⟨hi, q⟩ => ?_
  have S1 := S.up Ok u1.kp u1.g
  obtain ⟨a', ea, g1, g2, g3, g4, g5, g6, ws, il, pl, rl2⟩ := own_some S1 ho
  cases ea
  have hlen : ws.length = xs.length := rl2.length
  refine wpAny_list_append_plain (hsz := by simp [hlen]; (first | lia | omega)) (pl hp) fun h' pl' hs' => ?_
  have e3 : ws.toArray.push v = (ws ++ [v]).toArray := by simp
  rw [e3] at pl'
  have hall : (xs ++ [d]).all imm = true := by simp [List.all_append, g6, hi]
  obtain ⟨S3, kx3, lv3⟩ := own_chg (ys := xs ++ [d]) (pln := true) Ok S1 ho hs' pl'.isList (fun _ => pl') hall fun g => RepL.snoc (rl2.imm g6) (r1.imm hi)
  exact PostS.upx Ok u1 ⟨h', s1.toks, _, some a, .next, rfl, kx3, lv3, S3, fun b e => .inl e, trivial, q⟩
end
end Mine
end
section
set_option tactic.hygienic false
open PySem PySem.W PySem.Calls PyProof.Rows
namespace Mine

theorem hide_comm (hid : Addr → Bool) (a b : Addr) : hide (hide hid a) b = hide (hide hid b) a := by
  funext x; unfold hide; rw [Bool.or_assoc, Bool.or_assoc, Bool.or_comm (x == a)]
theorem hidO_hide (hid : Addr → Bool) (O : Option Addr) (b : Addr) : hidO (hide hid b) O = hide (hidO hid O) b := by
  cases O with
  | none => rfl
  | some a => exact hide_comm hid b a

section
variable {Y : Sys} {T : Tab} {k : Nat} {A : Around} {E : Value → Shared → Prop} {s : Shared} {hid : Addr → Bool} {env : Env} {sc : Scope} {ρ : List (Str × D)}

/-- a change at an object that is no part of the frame -/
theorem SSt.but (Ok : SysOk Y) {h h' : Heap} {σ : Ab} {O : Option Addr} {I : Addr} (S : SSt Y sc env hid h σ O) (kk : ∀ b o, b ≠ I → h.get? b = some o → h'.get? b = some o) (li : hid I = true → ∃ o, h'.get? I = some o) (hL : I ≠ env.locals) (hc : ∀ z, env.cells.lookup z ≠ some I) (hO : O ≠ some I)
    (hd : (∀ o, h.get? I = some o → isDat o = false) ∨ hid I = true) (hb : Y.base.get? I = none) (hP : I ≠ Y.P) (hn : ∀ o, h.get? I = some o → notCode o) : SSt Y sc env hid h' σ O := by
  have dk : ∀ {hid' : Addr → Bool}, (hid I = true → hid' I = true) → ∀ b o, hid' b = false → h.get? b = some o → isDat o = true → h'.get? b = some o := fun hh b o hbb e hdt => kk b o (by
    rintro rfl
    rcases hd with q | q
    · rw [q o e] at hdt; cases hdt
    · rw [hh q] at hbb; cases hbb) e
  refine ⟨?_, ?_, ?_, ?_, ?_⟩
  · refine S.V.keep (fun o e => kk _ o hL.symm e) (fun z c o hcz e => kk c o (fun q => hc z (by rw [← q]; exact hcz)) e) ?_
    exact dk fun q => by cases O with | none => exact q | some a => exact hide_of q
  · exact Ok.chg h h' [I] S.g (fun a ha => by rw [List.mem_singleton.mp ha]; exact ⟨hb, hP, hn⟩) fun b o hbb e => kk b o (by simpa using hbb) e
  · exact ⟨S.H.p, fun b hbb => by
      by_cases q : b = I
      · subst q; exact li hbb
      · obtain ⟨o, e⟩ := S.H.live b hbb; exact ⟨o, kk b o q e⟩, S.H.cst⟩
  · obtain ⟨m, n⟩ := S.ns; exact ⟨m, n.at' fun o e => kk _ o hL.symm e⟩
  · have ho := S.own
    cases O with
    | none => rw [ho.nil]; trivial
    | some a =>
      obtain ⟨x, xs, e⟩ := ho.addr
      rw [e] at ho ⊢
      obtain ⟨h1, h2, h3, h4, h5, h6, vs, il, pl, rl⟩ := ho
      have ne : a ≠ I := fun q => hO (by rw [q])
      refine ⟨h1, ?_, h3, h4, h5, h6, vs, il.at fun o e => kk a o ne e, (fun hp => (pl hp).at fun o e => kk a o ne e), rl.mono fun b o ho e => by obtain ⟨e1, e2⟩ := vis_get e; exact vis_of (dk (fun q => hide_of q) b o e2 e1 ho) e2⟩
      rcases h2 with ⟨q, m', n2, hm⟩ | ⟨q, hdd, c, e2, o, e3, d3⟩
      · exact .inl ⟨q, m', n2.at' fun o e => kk _ o hL.symm e, hm⟩
      · exact .inr ⟨q, hdd, c, e2, o, kk c o (fun q => hc x (by rw [← q]; exact e2)) e3, d3⟩

theorem SSt.hide (Ok : SysOk Y) {h : Heap} {σ : Ab} {O : Option Addr} {a : Addr} (S : SSt Y sc env hid h σ O) (ha : h.get? a = none) {h' : Heap} (kk : ∀ b o, h.get? b = some o → h'.get? b = some o) (la : ∃ o, h'.get? a = some o) : SSt Y sc env (Mine.hide hid a) h' σ O := by
  have g' := Ok.mono _ _ S.g kk
  obtain ⟨o, la⟩ := la
  have S' := S.up Ok (.of kk) g'
  have kk2 : ∀ {hid' : Addr → Bool} {v : Value} {d : D}, Rep (vis h hid') v d → Rep (vis h' (Mine.hide hid' a)) v d := fun r => (r.hide_fresh ha).mono fun b o _ e => by obtain ⟨e1, e2⟩ := vis_get e; exact vis_of (kk b o e1) e2
  refine ⟨⟨S'.V.kind, S'.V.sce, S'.V.glob, S'.V.bui, S'.V.baseL, S'.V.cells, S'.V.cellAt, fun x d e => ?_⟩, g', S'.H.hide la (fresh_notC Ok S.g ha), S'.ns, ?_⟩
  · obtain ⟨q, v, hv, r⟩ := S.V.vars x d e
    refine ⟨q, v, hv.up Ok S.g (.of kk), ?_⟩
    rw [hidO_hide]
    exact kk2 r
  · have ho := S.own
    have ho' := S'.own
    cases O with
    | none => rw [ho.nil]; trivial
    | some b =>
      obtain ⟨x, xs, e⟩ := ho.addr
      rw [e] at ho ho' ⊢
      obtain ⟨h1, h2, h3, h4, h5, h6, vs, il, pl, rl⟩ := ho
      obtain ⟨i1, i2, i3, i4, i5, i6, ws, il', pl', rl'⟩ := ho'
      have ne : b ≠ a := by
        rintro rfl
        obtain ⟨o, e, _⟩ := il; rw [ha] at e; cases e
      exact ⟨h1, i2, hide_ne h3 ne, h4, h5, h6, ws, il', pl', rl'.imm i6⟩

theorem SSt.unhide {h : Heap} {σ : Ab} {O : Option Addr} {a : Addr} (S : SSt Y sc env (Mine.hide hid a) h σ O) (H : HidOk Y hid h) : SSt Y sc env hid h σ O := by
  refine ⟨⟨S.V.kind, S.V.sce, S.V.glob, S.V.bui, S.V.baseL, S.V.cells, S.V.cellAt, fun x d e => ?_⟩, S.g, H, S.ns, ?_⟩
  · obtain ⟨q, v, hv, r⟩ := S.V.vars x d e
    rw [hidO_hide] at r
    exact ⟨q, v, hv, r.unhide⟩
  · have ho := S.own
    cases O with
    | none => rw [ho.nil]; trivial
    | some b =>
      obtain ⟨x, xs, e⟩ := ho.addr
      rw [e] at ho ⊢
      obtain ⟨h1, h2, h3, h4, h5, h6, vs, il, pl, rl⟩ := ho
      exact ⟨h1, h2, (hide_false h3).1, h4, h5, h6, vs, il, pl, rl.imm h6⟩

theorem ItAt.unhide {fp wr : List Addr} {h : Heap} {it : Value} {rest : List D} {a : Addr} (x : ItAt Y A (Mine.hide hid a) fp wr h it rest) (hw : ∀ b ∈ wr, hid b = true) : ItAt Y A hid fp wr h it rest := by
  obtain ⟨I, n, i, P, St, e, W, st, hn, hv, _, hc, hr⟩ := x
  refine ⟨I, n, i, P, St, e, W, st, hn, hv, hw, hc, fun j v hj hp => ?_⟩
  obtain ⟨d, e1, r⟩ := hr j v hj hp
  exact ⟨d, e1, r.unhide⟩
theorem ItAt.unhideO {fp wr : List Addr} {h : Heap} {it : Value} {rest : List D} {O : Option Addr} (x : ItAt Y A (hidO hid O) fp wr h it rest) (hw : ∀ b ∈ wr, hid b = true) : ItAt Y A hid fp wr h it rest := by
  cases O with
  | none => exact x
  | some a => exact x.unhide hw

theorem dat_kpf {h h' : Heap} {σ : Ab} {O : Option Addr} (S : SSt Y sc env hid h σ O) (q : KpF Y env O h h') : ∀ b o, hidO hid O b = false → isDat o = true → h.get? b = some o → h'.get? b = some o := fun b o hb hd e => by
  refine q b o (by rintro rfl; rw [hidO_p S.H.p] at hb; cases hb) ⟨?_, fun z hz => ?_, ?_⟩ e
  · rintro rfl
    obtain ⟨m, n⟩ := S.ns
    rw [ns_isDat n o e] at hd; cases hd
  · obtain ⟨v, n⟩ := S.V.cellAt z b hz
    rw [cell_isDat n o e] at hd; cases hd
  · rintro rfl
    rw [show hidO hid (some b) b = true from hide_self _ _] at hb; cases hb
theorem rep_kpf {h h' : Heap} {σ : Ab} {O : Option Addr} {v : Value} {d : D} (S : SSt Y sc env hid h σ O) (q : KpF Y env O h h') (r : Rep (vis h (hidO hid O)) v d) : Rep (vis h' (hidO hid O)) v d :=
  r.mono fun b o hd e => by obtain ⟨e1, e2⟩ := vis_get e; exact vis_of (dat_kpf S q b o e2 hd e1) e2

set_option tactic.hygienic true in
theorem bindT_inv {t : Expr} {d : D} {σ σ' : Ab} {C : Expr → D → Ab → Prop} (h : bindT sc t d σ = some σ') (h1 : ∀ y py, storable sc y = true → C (.Name y py) d (σ.set y d))
    (h2 : ∀ y py z pz k p a b, storable sc y = true → storable sc z = true → C (.Tuple [.Name y py, .Name z pz] k p) (.tuple [a, b]) ((σ.set y a).set z b)) : C t d σ' := by
  have i1 : ∀ {c : Bool} {a : Ab}, (if c = true then some a else none) = some σ' → c = true ∧ a = σ' := fun {c a} e => by
    cases c with
    | true => exact ⟨rfl, Option.some.inj e⟩
    | false => exact (none_ne e).elim
  cases t <;> first | exact (none_ne h).elim | skip
  · obtain ⟨hs, rfl⟩ := i1 h
    exact h1 _ _ hs
  · rename_i es k p
    cases es with
    | nil => exact (none_ne h).elim
    | cons e1 es =>
      cases e1 <;> first | exact (none_ne h).elim | skip
      cases es with
      | nil => exact (none_ne h).elim
      | cons e2 es =>
        cases e2 <;> first | exact (none_ne h).elim | skip
        cases es with
        | cons => exact (none_ne h).elim
        | nil =>
          cases d <;> first | exact (none_ne h).elim | skip
          rename_i ds
          cases ds with
          | nil => exact (none_ne h).elim
          | cons a ds =>
            cases ds with
            | nil => exact (none_ne h).elim
            | cons b ds =>
              cases ds with
              | cons => exact (none_ne h).elim
              | nil =>
                obtain ⟨hs, rfl⟩ := i1 h
                rw [Bool.and_eq_true] at hs
                exact h2 _ _ _ _ _ _ _ _ hs.1 hs.2

/-- storing an item of a loop -/
theorem bind_sound (Ok : SysOk Y) (F : SFr Y env) {σ σ' : Ab} {O : Option Addr} {t : Expr} {v : Value} {d : D} {R : Unit → Shared → Prop} (hb : bindT sc t d σ = some σ') (S : SSt Y sc env hid s.heap σ O) (r : Rep (vis s.heap (hidO hid O)) v d) (hh : A.handled = none)
    (hR : ∀ h' tk O', KpF Y env O s.heap h' → Lv s.heap h' → SSt Y sc env hid h' σ' O' → (O' = O ∨ O' = none) → R () { s with heap := h', toks := tk }) :
    wpAny (model Y.prog Y.w) A (assign t env v) R E s := by
  revert S r hR
  refine bindT_inv (C := fun t d σ' => SSt Y sc env hid s.heap σ O → Rep (vis s.heap (hidO hid O)) v d → (∀ h' tk O', KpF Y env O s.heap h' → Lv s.heap h' → SSt Y sc env hid h' σ' O' → (O' = O ∨ O' = none) → R () { s with heap := h', toks := tk }) → wpAny (model Y.prog Y.w) A (assign t env v) R E s) hb
    (fun y py hs S r hR => wpAny_assign_Name (st_store Ok F S hs r hR)) fun y py z pz kk pt a b hs1 hs2 S r hR => ?_
  revert hR
  refine r.tupleE fun tA o vs n hl c e r => ?_
  revert e
  refine r.consE fun va vs ra r => r.consE fun vb vs rb r => r.nilE fun e hR => ?_
  refine wpAny_assign_Tuple hh (rep_isTuple hl c e) (by rfl) (by rfl) fun h1 ex => ?_
  have k1 : ∀ b o, s.heap.get? b = some o → h1.get? b = some o := fun b o e => ex b o (Nat.ne_of_lt (Heap.lt_size e)) e
  have g1 := Ok.mono _ _ S.g k1
  have S1 := S.up Ok (.of k1) g1
  have hp := hidO_p (O := O) S.H.p
  refine wpAny_assignInOrder_more (wpAny_assign_Name (st_store (s := { s with heap := h1 }) Ok F S1 hs1 (ra.up hp (Kp.of k1)) fun h2 tk2 O2 kf2 lv2 S2 c2 => ?_))
  have rb2 : Rep (vis h2 (hidO hid O2)) vb b := by
    have := rep_kpf S1 kf2 (rb.up hp (Kp.of k1))
    rcases c2 with rfl | rfl
    · exact this
    · exact this.unhideO
  refine wpAny_assignInOrder_more (wpAny_assign_Name (st_store (s := { s with heap := h2, toks := tk2 }) Ok F S2 hs2 rb2 fun h3 tk3 O3 kf3 lv3 S3 c3 => ?_))
  refine wpAny_assignInOrder_none ?_
  refine hR h3 tk3 O3 (kpx_trans (kpx_trans (KpF.of (Kp.of k1)) (fun a e => .inl e) kf2) (fun a e => .inl ?_) kf3) (((Lv.kp Ok (.of k1) g1).trans lv2).trans lv3) S3 ?_
  · rcases c2 with rfl | rfl
    · exact e
    · cases e
  · rcases c3 with rfl | rfl
    · exact c2
    · exact .inr rfl
end
end Mine
end
section
set_option tactic.hygienic false
open PySem PySem.W PySem.Calls PyProof.Rows
namespace Mine

section
variable {Y : Sys} {T : Tab} {k : Nat} {A : Around} {E : Value → Shared → Prop} {s : Shared} {hid : Addr → Bool} {env : Env} {sc : Scope} {ρ : List (Str × D)}

/-- the end of a comprehension that is stored at once -/
theorem swap_fin (Ok : SysOk Y) (F : SFr Y env) {σ : Ab} {y : Str} {py : Pos} {Q : Fl → Ab → Prop} (S : SSt Y sc env hid s.heap σ none) (hs : storable sc y = true) (Dd C : Addr) (s' : Shared) (u : Up Y s s') (fC : s.heap.get? C = none)
    (nm : ∃ m, s'.heap.Ns C m) (rq : ∃ acc, Rep (vis s'.heap hid) (.ref Dd) (.list acc) ∧ Q .next (σ.set y (.list acc))) :
    wpAny (model Y.prog Y.w) A (assign (.Name y py) env (.ref Dd)) (fun _ s'' => ∃ m, s''.heap.Ns C m ∧ ∀ h', Heap.SameBut C s''.heap h' → PostS Y sc env hid none s Q .next { s'' with heap := h' }) E s' := by
  obtain ⟨m, nm⟩ := nm
  obtain ⟨acc, r, q⟩ := rq
  have S1 := S.up Ok u.kp u.g
  have CL : C ≠ env.locals := by
    rintro rfl
    obtain ⟨m, o, es, ep, e, _⟩ := S.ns
    rw [fC] at e; cases e
  have CC : ∀ z, env.cells.lookup z ≠ some C := fun z hz => by
    obtain ⟨v, o, e, _⟩ := S.V.cellAt z C hz
    rw [fC] at e; cases e
  have CP : C ≠ Y.P := ns_notP Ok u.g nm
  refine wpAny_assign_Name (st_store Ok F S1 hs r fun h2 tk O2 kx lv S2 c => ?_)
  have hO2 : O2 = none := by rcases c with c | c <;> exact c
  subst hO2
  have nm2 : h2.Ns C m := nm.at' fun o e => kx C o CP ⟨CL, CC, by simp⟩ e
  refine ⟨m, nm2, fun h3 hsb => ?_⟩
  have kk : ∀ b o, b ≠ C → h2.get? b = some o → h3.get? b = some o := fun b o hb e => (hsb.2 b hb).trans e
  have hC : hid C = false := S.H.fresh fC
  have S3 := S2.but Ok kk (fun q => by rw [hC] at q; cases q) CL CC (by simp) (.inl (ns_isDat nm2)) (Ok.fresh _ _ S.g fC) CP (ns_notCode nm2)
  obtain ⟨h1, tk1, rfl, kp1, g1⟩ := id u
  refine ⟨h3, tk, _, none, .next, rfl, fun b o hP hb e => ?_, fun b o e => ?_, S3, (fun a e => by cases e), trivial, q⟩
  · exact kk b o (by rintro rfl; rw [fC] at e; cases e) (kx b o hP hb (kp1 b o hP e))
  · obtain ⟨o', e'⟩ := ((Lv.kp Ok kp1 g1).trans lv) b o e
    exact ⟨o', kk b o' (by rintro rfl; rw [fC] at e; cases e) e'⟩

set_option tactic.hygienic true in
theorem c_swap (Ok : SysOk Y) (TO : TabOk Y k T) {n : Nat} {σ : Ab} {O : Option Addr} {y : Str} {py pos : Pos} {value : Expr} {Q : Fl → Ab → Prop} (hs : storable sc y = true) (hv : okVal value = true) (hw : swaps sc y py value = true) (ho : σ.own = none)
    (p : wpE T n sc σ.vars value fun d => Q .next (σ.set y d)) (F : SFr Y env) (S : SSt Y sc env hid s.heap σ O) (R : Room k A) :
    wpAny (model Y.prog Y.w) A (exec (.Assign [.Name y py] value pos) env) (PostS Y sc env hid O s Q) E s := by
  have hO : O = none := by
    cases O with
    | none => rfl
    | some a => obtain ⟨x, xs, e⟩ := S.own.addr; rw [ho] at e; cases e
  subst hO
  rw [exec_Assign_Name_used _ _ _ _ ((swaps_eq S.V _ hv).trans (by rw [hw]))]
  refine wpAny_bind (wpAny_standAt (wpAny_bind ?_))
  cases n with
  | zero => exact p.elim
  | succ n =>
  cases p <;> first | exact absurd hw Bool.false_ne_true | skip
  · rename_i elt x px iter ifs scope pos' p1 p2 p
    have K := compOk_of p1
    show wpAny _ A (do let _ ← comprehension (.ListComp elt [⟨.Name x px, iter, ifs, 0⟩] scope pos') scope env _ (newList []) false (eval iter env) (some (assign (.Name y py) env))) _ _ s
    refine wpAny_bind (wpAny_mono (comp_enter (R := fun _ s' => PostS Y sc env hid none s Q .next s') (Q := fun d => Q .next (σ.set y d)) (use := some (assign (.Name y py) env)) Ok (wpE_sound Ok TO n sc σ.vars) p1 p2 (fun d hd e => by rw [e] at hd; exact hd) p S.V S.g S.H R (fun d items I Dd C fp h tk q hit ci => ?_) (fun Dd C s' u fC fD hDC nm rq => swap_fin Ok F S hs Dd C s' u fC nm rq)) (fun _ s' hq => wpAny_pure (wpAny_pure hq)) fun _ _ x => x)
    rw [hit] at q
    obtain ⟨hz, q⟩ := q
    refine comp1_loop Ok (sn_of Ok fun sc ρ => wpE_sound Ok TO n sc ρ) (ci.ap x (K.vars x (by simp)).1 (K.vars x (by simp)).2) rfl rfl R q ci.st (by simpa using hz) fun h' tk' ρ' acc' kx V' g' pl ns q' _ => ?_
    exact ⟨h', tk', acc', rfl, kx, g', pl, ns, q'⟩
  · rename_i elt x px iter z pz iter2 scope pos' p1 p2 p3 p4 p
    have K := compOk_of p1
    show wpAny _ A (do let _ ← comprehension (.ListComp elt [⟨.Name x px, iter, [], 0⟩, ⟨.Name z pz, iter2, [], 0⟩] scope pos') scope env _ (newList []) false (eval iter env) (some (assign (.Name y py) env))) _ _ s
    refine wpAny_bind (wpAny_mono (comp_enter (R := fun _ s' => PostS Y sc env hid none s Q .next s') (Q := fun d => Q .next (σ.set y d)) (use := some (assign (.Name y py) env)) Ok (wpE_sound Ok TO n sc σ.vars) p1 p2 (fun d hd e => by rw [e] at hd; exact hd) p S.V S.g S.H R (fun d items I Dd C fp h tk q hit ci => ?_) (fun Dd C s' u fC fD hDC nm rq => swap_fin Ok F S hs Dd C s' u fC nm rq)) (fun _ s' hq => wpAny_pure (wpAny_pure hq)) fun _ _ x => x)
    rw [hit] at q
    have ay := ci.ap z (K.vars z (by simp)).1 (K.vars z (by simp)).2
    refine comp2_loop Ok (sn_of Ok fun sc ρ => wpE_sound Ok TO n sc ρ) (ci.ap x (K.vars x (by simp)).1 (K.vars x (by simp)).2) ay.hx ay.hxd p3 R q ci.st fun h' tk' acc' kx g' pl ns q' => ?_
    exact ⟨h', tk', acc', rfl, kx, g', pl, ns, q'⟩

theorem c_return (Ok : SysOk Y) (TO : TabOk Y k T) {n : Nat} {σ : Ab} {O : Option Addr} {e : Expr} {pos : Pos} {Q : Fl → Ab → Prop} (p : wpE T n sc σ.all e fun d => Q (.ret d) σ) (S : SSt Y sc env hid s.heap σ O) (R : Room k A) :
    wpAny (model Y.prog Y.w) A (exec (.Return (some e) pos) env) (PostS Y sc env hid O s Q) E s := by
  refine wpAny_Return_some (bindP (wpE_sound Ok TO n sc σ.all e _ A s env hid E p (S.all Ok) S.g S.H R) fun v s1 d u r q => ?_)
  exact PostS.upx Ok u ⟨s1.heap, s1.toks, σ, O, .ret d, rfl, KpF.refl, Lv.refl, S.up Ok u.kp u.g, fun a e => .inl e, r, q⟩

theorem c_if (Ok : SysOk Y) (TO : TabOk Y k T) {n m : Nat} (hb : SndSs Y k T m) {σ : Ab} {O : Option Addr} {t : Expr} {b o : List Stmt} {pos : Pos} {Q : Fl → Ab → Prop} (p : wpT (wpE T n sc σ.all) n t fun c => bif c then wpSs T m sc b σ Q else wpSs T m sc o σ Q) (F : SFr Y env) (S : SSt Y sc env hid s.heap σ O) (R : Room k A) :
    wpAny (model Y.prog Y.w) A (exec (.If t b o pos) env) (PostS Y sc env hid O s Q) E s := by
  refine wpAny_If (wpAny_mono (sndT Ok (wpE_sound Ok TO n sc σ.all) n t _ A s env hid E p (S.all Ok) S.g S.H R) (fun c s1 q => ?_) fun _ _ x => x)
  obtain ⟨u, q⟩ := q
  have S1 := S.up Ok u.kp u.g
  cases c with
  | true => exact wpAny_mono (hb sc b σ Q A s1 env hid O E q F S1 R) (fun _ _ z => z.upx Ok u) fun _ _ x => x
  | false => exact wpAny_mono (hb sc o σ Q A s1 env hid O E q F S1 R) (fun _ _ z => z.upx Ok u) fun _ _ x => x

theorem c_break {σ : Ab} {O : Option Addr} {pos : Pos} {Q : Fl → Ab → Prop} (p : Q .brk σ) (S : SSt Y sc env hid s.heap σ O) :
    wpAny (model Y.prog Y.w) A (exec (.Break pos) env) (PostS Y sc env hid O s Q) E s :=
  wpAny_Break ⟨s.heap, s.toks, σ, O, .brk, rfl, KpF.refl, Lv.refl, S, fun a e => .inl e, trivial, p⟩

theorem while_inv {n : Nat} {t : Expr} {b : List Stmt} {wp : Pos} {σ : Ab} {Q : Fl → Ab → Prop} (p : wpS T (n + 1) sc (.While t b [] wp) σ Q) : wpT (wpE T n sc σ.all) n t fun c => bif c then wpSs T n sc b σ (contS (fun σ' => wpS T n sc (.While t b [] wp) σ' Q) Q) else Q .next σ := by
  unfold wpS at p
  cases p with
  | «while» _ _ _ p => exact p
/-- a while loop, by its fuel -/
theorem while_loop (Ok : SysOk Y) (TO : TabOk Y k T) {t : Expr} {b : List Stmt} {wp : Pos} (F : SFr Y env) (R : Room k A) {Q : Fl → Ab → Prop} {s₀ : Shared} {O₀ : Option Addr} :
    ∀ (n : Nat), (∀ m, m < n → SndSs Y k T m) → ∀ (σ : Ab) (O : Option Addr) (s : Shared), wpS T n sc (.While t b [] wp) σ Q → SSt Y sc env hid s.heap σ O → (∀ fl s', PostS Y sc env hid O s Q fl s' → PostS Y sc env hid O₀ s₀ Q fl s') →
      codeAny (model Y.prog Y.w) A (.whileLoop t b [] env) (fun r s' => match r with | .ok f => PostS Y sc env hid O₀ s₀ Q f s' | .error e => cameBackBy (model Y.prog Y.w) A env E e s') s := by
  intro n hb σ O s p S K
  refine codeAny_whileLoop (fun i s => i ≤ n ∧ ∃ σ O, wpS T i sc (.While t b [] wp) σ Q ∧ SSt Y sc env hid s.heap σ O ∧ ∀ fl s', PostS Y sc env hid O s Q fl s' → PostS Y sc env hid O₀ s₀ Q fl s') ?_ n ⟨Nat.le_refl _, σ, O, p, S, K⟩
  rintro i s ⟨hi, σ, O, p, S, K⟩
  cases i with
  | zero => exact False.elim p
  | succ i =>
    have p := while_inv p
    refine wpAny_mono (sndT Ok (wpE_sound Ok TO i sc σ.all) i t _ A s env hid _ p (S.all Ok) S.g S.H R) (fun c s1 q => ?_) fun _ _ x => x
    obtain ⟨u, q⟩ := q
    have S1 := S.up Ok u.kp u.g
    cases c with
    | true =>
      simp only [if_true]
      refine wpAny_mono (hb i hi sc b σ _ A s1 env hid O _ q F S1 R) (fun fl s2 q => ?_) fun _ _ x => x
      have q' := q.upx Ok u
      exact PostS.elim q' (fun h' tk σ' O' kx lv S' c q => ⟨i, Nat.lt_succ_self _, Nat.le_of_lt hi, σ', O', q, S', fun fl s' p => K _ _ (p.after rfl kx lv c)⟩) (fun h' tk σ' O' kx lv S' c q => K _ _ (.next kx lv S' c q))
        (fun h' tk σ' O' kx lv S' c q => ⟨i, Nat.lt_succ_self _, Nat.le_of_lt hi, σ', O', q, S', fun fl s' p => K _ _ (p.after rfl kx lv c)⟩) fun h' tk σ' O' v d kx lv S' c fr q => K _ _ (.ret kx lv S' c fr q)
    | false =>
      simp only [Bool.false_eq_true, if_false]
      exact wpAny_execs_nil (K _ _ (PostS.upx Ok u ⟨s1.heap, s1.toks, σ, O, .next, rfl, KpF.refl, Lv.refl, S1, fun a e => .inl e, trivial, q⟩))
end
end Mine
end
section
set_option tactic.hygienic false
open PySem PySem.W PySem.Calls PyProof.Rows
namespace Mine

section
variable {Y : Sys} {T : Tab} {k : Nat} {A : Around} {E : Value → Shared → Prop} {s : Shared} {hid : Addr → Bool} {env : Env} {sc : Scope} {ρ : List (Str × D)}

theorem HidOk.sub {h h' : Heap} {I : Addr} (H : HidOk Y (Mine.hide hid I) h) (H0 : HidOk Y hid h') : HidOk Y hid h :=
  ⟨H0.p, fun b hb => H.live b (hide_of hb), H0.cst⟩

/-- the walker is spent -/
theorem SSt.spent (Ok : SysOk Y) {h h' : Heap} {σ : Ab} {O : Option Addr} {I : Addr} (S : SSt Y sc env (Mine.hide hid I) h σ O) (kk : ∀ b o, b ≠ I → h.get? b = some o → h'.get? b = some o) (H' : HidOk Y hid h') (hL : I ≠ env.locals) (hc : ∀ z, env.cells.lookup z ≠ some I) (hO : O ≠ some I)
    (hb : Y.base.get? I = none) (hP : I ≠ Y.P) (hn : ∀ o, h.get? I = some o → notCode o) : SSt Y sc env hid h' σ O := by
  have dk : ∀ {hid' : Addr → Bool} {v : Value} {d : D}, Rep (vis h (Mine.hide hid' I)) v d → Rep (vis h' hid') v d := fun r => r.mono fun b o _ e => by
    obtain ⟨e1, e2⟩ := vis_get e
    obtain ⟨e3, e4⟩ := hide_false e2
    exact vis_of (kk b o e4 e1) e3
  have va : ∀ x v, VarAt env h x v → VarAt env h' x v := by
    intro x v h2
    rcases h2 with ⟨q, m', n2, hm⟩ | ⟨q, hdd, c, e2, o, e3, d3⟩
    · exact .inl ⟨q, m', n2.at' fun o e => kk _ o hL.symm e, hm⟩
    · exact .inr ⟨q, hdd, c, e2, o, kk c o (fun q => hc x (by rw [← q]; exact e2)) e3, d3⟩
  refine ⟨⟨S.V.kind, S.V.sce, S.V.glob, S.V.bui, S.V.baseL, S.V.cells, fun z c e => ?_, fun x d e => ?_⟩, ?_, H', ?_, ?_⟩
  · obtain ⟨v, o, e2, d2⟩ := S.V.cellAt z c e
    exact ⟨v, o, kk c o (fun q => hc z (by rw [← q]; exact e)) e2, d2⟩
  · obtain ⟨q, v, hv, r⟩ := S.V.vars x d e
    rw [hidO_hide] at r
    exact ⟨q, v, va x v hv, dk r⟩
  · exact Ok.chg h h' [I] S.g (fun a ha => by rw [List.mem_singleton.mp ha]; exact ⟨hb, hP, hn⟩) fun b o hbb e => kk b o (by simpa using hbb) e
  · obtain ⟨m, n⟩ := S.ns; exact ⟨m, n.at' fun o e => kk _ o hL.symm e⟩
  · have ho := S.own
    cases O with
    | none => rw [ho.nil]; trivial
    | some a =>
      obtain ⟨x, xs, e⟩ := ho.addr
      rw [e] at ho ⊢
      obtain ⟨h1, h2, h3, h4, h5, h6, vs, il, pl, rl⟩ := ho
      have ne : a ≠ I := fun q => hO (by rw [q])
      exact ⟨h1, va x _ h2, (hide_false h3).1, h4, h5, h6, vs, il.at fun o e => kk a o ne e, (fun hp => (pl hp).at fun o e => kk a o ne e), rl.imm h6⟩

theorem go_sound {t : Expr} {I : Addr} {v : Value} {R : Unit → Shared → Prop} (ht : okT sc t = true) (hg : ∃ o, s.heap.get? I = some o ∧ goOk o) (hR : R () s) : wpAny (model Y.prog Y.w) A (letOwnedTupleGo t (.ref I) v) R E s := by
  obtain ⟨o, e, n, hc, hn⟩ := hg
  have key : wpAny (model Y.prog Y.w) A (letOwnedTupleGo (.Tuple [] 0 ⟨0, 0, 0, 0⟩) (.ref I) v) R E s := by
    cases v <;> first | exact wpAny_pure hR | skip
    refine wpAny_bind (wpAny_load e ?_)
    rw [hc]
    cases o.data <;> first | exact wpAny_pure hR | skip
    simp only [hn, Bool.false_and, Bool.false_eq_true, if_false]
    exact wpAny_pure hR
  cases t <;> first | exact absurd ht Bool.false_ne_true | exact wpAny_pure hR | exact key

/-- what stands in a loop over an iterator -/
structure LAp (Y : Sys) (env : Env) (h : Heap) (O : Option Addr) (I : Addr) (fp : List Addr) : Prop where
  ap : ∀ b ∈ I :: fp, b ≠ env.locals ∧ (∀ z, env.cells.lookup z ≠ some b) ∧ O ≠ some b ∧ ∃ o, h.get? b = some o

theorem ItAt.wrs {fp wr : List Addr} {h : Heap} {it : Value} {rest : List D} (x : ItAt Y A hid fp wr h it rest) : ∀ b ∈ wr, ∃ o, h.get? b = some o ∧ notCode o ∧ goOk o := by
  obtain ⟨I, n, i, P, St, e, W, st, hn, hv, hw, hc, hr⟩ := x
  exact hc i h st
theorem it_kpf {h h' : Heap} {σ : Ab} {O O' : Option Addr} {I : Addr} {fp : List Addr} {rest : List D} (S : SSt Y sc env hid h σ O) (L : LAp Y env h O I fp) (kf : KpF Y env O h h') (c : ∀ a, O' = some a → O = some a ∨ h.get? a = none) (hI : hid I = true)
    (it : ItAt Y A (hidO hid O) fp [I] h (.ref I) rest) : ItAt Y A (hidO hid O') fp [I] h' (.ref I) rest := by
  have hv : ∀ b ∈ fp, b ≠ Y.P := by obtain ⟨I, n, i, P, St, e, W, st, hn, hv, hr⟩ := it; exact hv
  have hf : ∀ b ∈ fp, ∀ o, h.get? b = some o → h'.get? b = some o := fun b hb o e => by
    obtain ⟨a1, a2, a3, _⟩ := L.ap b (.tail _ hb)
    exact kf b o (hv b hb) ⟨a1, a2, a3⟩ e
  have hw : ∀ b ∈ [I], hid b = true := fun b hb => by rw [List.mem_singleton.mp hb]; exact hI
  have f1 : ItAt Y A (hidO hid O) fp [I] h' (.ref I) rest := it.frame hf fun b o hb hd e => dat_kpf S kf b o hb hd e
  cases O' with
  | none => exact f1.unhideO hw
  | some a =>
    rcases c a rfl with rfl | ha
    · exact f1
    · have f2 := (it.hide ha).frame hf fun b o hb hd e => dat_kpf S kf b o (hide_false hb).1 hd e
      rw [← hidO_hide] at f2
      exact f2.unhideO fun b hb => hide_of (hw b hb)

theorem LAp.kpf {h h' : Heap} {O O' : Option Addr} {I : Addr} {fp : List Addr} (L : LAp Y env h O I fp) (lv : Lv h h') (c : ∀ a, O' = some a → O = some a ∨ h.get? a = none) : LAp Y env h' O' I fp := ⟨fun b hb => by
  obtain ⟨a1, a2, a3, o, e⟩ := L.ap b hb
  refine ⟨a1, a2, fun q => ?_, lv b o e⟩
  rcases c b q with q | q
  · exact a3 q
  · rw [q] at e; cases e⟩

structure ForI (Y : Sys) (A : Around) (sc : Scope) (env : Env) (hid : Addr → Bool) (I : Addr) (fp : List Addr) (s₀ : Shared) (O₀ : Option Addr) (W : List D → Ab → Prop) (rest : List D) (σ : Ab) (O : Option Addr) (s : Shared) : Prop where
  S : SSt Y sc env (hide hid I) s.heap σ O
  it : ItAt Y A (hidO (hide hid I) O) fp [I] s.heap (.ref I) rest
  p : W rest σ
  L : LAp Y env s.heap O I fp
  e0 : ∃ h tk, s = { s₀ with heap := h, toks := tk }
  kf : KpF Y env O₀ s₀.heap s.heap
  lv : Lv s₀.heap s.heap
  c : ∀ a, O = some a → O₀ = some a ∨ s₀.heap.get? a = none
theorem for_loop (Ok : SysOk Y) {m m' : Nat} (hb : SndSs Y k T m) (ho : SndSs Y k T m') {t : Expr} {b o : List Stmt} (ht : okT sc t = true) (F : SFr Y env) (R : Room k A) {Q : Fl → Ab → Prop} {s₀ : Shared} {O₀ : Option Addr} {I : Addr} {fp : List Addr} (fI : s₀.heap.get? I = none) (bI : Y.base.get? I = none) (H0 : HidOk Y hid s₀.heap)
    (items : List D) (σ : Ab) (O : Option Addr) (S : SSt Y sc env (hide hid I) s.heap σ O) (it : ItAt Y A (hidO (hide hid I) O) fp [I] s.heap (.ref I) items) (p : forP (fun σ' => wpSs T m sc b σ') (fun σ' => wpSs T m' sc o σ') (bindT sc t) items σ Q)
    (L : LAp Y env s.heap O I fp) (e0 : ∃ h tk, s = { s₀ with heap := h, toks := tk }) (kf0 : KpF Y env O₀ s₀.heap s.heap) (lv0 : Lv s₀.heap s.heap) (c0 : ∀ a, O = some a → O₀ = some a ∨ s₀.heap.get? a = none) :
    codeAny (model Y.prog Y.w) A (.forLoop t (.ref I) b o env) (fun r s' => match r with | .ok f => PostS Y sc env hid O₀ s₀ Q f s' | .error e => cameBackBy (model Y.prog Y.w) A env E e s') s := by
  refine codeAny_forLoop_any (fun i s => ∃ rest σ O, i = rest.length ∧ ForI Y A sc env hid I fp s₀ O₀ (fun rest σ => forP (fun σ' => wpSs T m sc b σ') (fun σ' => wpSs T m' sc o σ') (bindT sc t) rest σ Q) rest σ O s) ?_ items.length ⟨items, σ, O, rfl, S, it, p, L, e0, kf0, lv0, c0⟩
  clear S it p L e0 kf0 lv0 c0
  rintro i s ⟨rest, σ, O, hi, J⟩
  have S := J.S
  have it := J.it
  have p := J.p
  have L := J.L
  obtain ⟨h0, tk0, e0⟩ := J.e0
  have kf0 := J.kf
  have lv0 := J.lv
  have c0 := J.c
  clear J
  have hII : hide hid I I = true := hide_self _ _
  obtain ⟨aL, aC, aO, oI, eI⟩ := L.ap I (.head _)
  have aP : I ≠ Y.P := by
    rintro rfl
    obtain ⟨ps, e⟩ := Ok.tab _ S.g
    obtain ⟨o2, e2, n2, ⟨nm, c2, _⟩⟩ := it.wrs _ (.head _)
    rw [e] at e2; cases e2; cases c2
  have nc : ∀ o, s.heap.get? I = some o → notCode o := by
    intro o e
    obtain ⟨o2, e2, n2, _⟩ := it.wrs I (.head _)
    rw [e] at e2; cases e2; exact n2
  have up0 : ∀ {h1 : Heap}, ButWr [I] s.heap h1 → KpF Y env O₀ s₀.heap h1 ∧ (Lv s₀.heap h1) := fun hk => by
    refine ⟨fun b o hP hb e => hk b o ?_ (kf0 b o hP hb e), fun b o e => ?_⟩
    · intro hm; rw [List.mem_singleton.mp hm, fI] at e; cases e
    · obtain ⟨o', e'⟩ := lv0 b o e
      exact ⟨o', hk b o' (by intro hm; rw [List.mem_singleton.mp hm, fI] at e; cases e) e'⟩
  cases rest with
  | nil =>
    refine it.done fun h1 tk1 hk => ?_
    have kk : ∀ b o, b ≠ I → s.heap.get? b = some o → h1.get? b = some o := fun b o hb e => hk b o (by simpa using hb) e
    obtain ⟨kf1, lv1⟩ := up0 hk
    have H1 : HidOk Y hid h1 := ⟨H0.p, fun b hb => by
      obtain ⟨o, e⟩ := S.H.live b (hide_of hb)
      by_cases hbI : b = I
      · subst hbI; rw [H0.fresh fI] at hb; cases hb
      · exact ⟨o, kk b o hbI e⟩, H0.cst⟩
    have S1 := S.spent Ok kk H1 aL aC aO bI aP nc
    refine wpAny_mono (ho sc o σ Q A { s with heap := h1, toks := tk1 } env hid O _ p F S1 R) (fun fl s' z => ?_) fun _ _ x => x
    exact z.after (by rw [e0]) kf1 lv1 c0
  | cons d rest =>
    refine it.next fun v h1 tk1 hk r it1 => ?_
    have kk : ∀ b o, b ≠ I → s.heap.get? b = some o → h1.get? b = some o := fun b o hb e => hk b o (by simpa using hb) e
    obtain ⟨kf1, lv1⟩ := up0 hk
    obtain ⟨o1, e1, g1⟩ := it1.go
    have S1 := S.but Ok kk (fun _ => ⟨o1, e1⟩) aL aC aO (.inr hII) bI aP nc
    have L1 : LAp Y env h1 O I fp := ⟨fun b hb => by
      obtain ⟨a1, a2, a3, o, e⟩ := L.ap b hb
      refine ⟨a1, a2, a3, ?_⟩
      by_cases q : b = I
      · rw [q]; exact ⟨o1, e1⟩
      · exact ⟨o, kk b o q e⟩⟩
    refine go_sound ht ⟨o1, e1, g1⟩ ?_
    unfold forP at p
    cases hbd : bindT sc t d σ with
    | none => rw [hbd] at p; exact p.elim
    | some σ1 =>
      rw [hbd] at p
      refine bind_sound (s := { s with heap := h1, toks := tk1 }) Ok F hbd S1 r R.h fun h3 tk3 O3 kf3 lv3 S3 c3 => ?_
      have c3' : ∀ a, O3 = some a → O = some a ∨ h1.get? a = none := fun a e => .inl (by
        rcases c3 with c3 | c3
        · rw [← c3]; exact e
        · rw [c3] at e; cases e)
      have it3 := it_kpf S1 L1 kf3 c3' hII it1
      have L3 := L1.kpf lv3 c3'
      refine wpAny_mono (hb sc b σ1 _ A { s with heap := h3, toks := tk3 } env (hide hid I) O3 _ p F S3 R) (fun fl s' z => ?_) fun _ _ x => x
      have kfA := kpx_trans kf1 c0 kf3
      have lvA := lv1.trans lv3
      have cA := own_trans lv1 c0 c3'
      refine PostS.elim z (fun h4 tk4 σ4 O4 kf4 lv4 S4 c4 q => ?_) (fun h4 tk4 σ4 O4 kf4 lv4 S4 c4 q => ?_) (fun h4 tk4 σ4 O4 kf4 lv4 S4 c4 q => ?_) fun h4 tk4 σ4 O4 v d kf4 lv4 S4 c4 fr q => ?_
      · exact ⟨rest.length, by rw [hi]; simp, rest, σ4, O4, rfl, ⟨S4, it_kpf S3 L3 kf4 c4 hII it3, q, L3.kpf lv4 c4, ⟨h4, tk4, by rw [e0]⟩, kpx_trans kfA cA kf4, lvA.trans lv4, own_trans lvA cA c4⟩⟩
      · rw [e0]; exact .next (kpx_trans kfA cA kf4) (lvA.trans lv4) (S4.unhide (S4.H.sub H0)) (own_trans lvA cA c4) q
      · exact ⟨rest.length, by rw [hi]; simp, rest, σ4, O4, rfl, ⟨S4, it_kpf S3 L3 kf4 c4 hII it3, q, L3.kpf lv4 c4, ⟨h4, tk4, by rw [e0]⟩, kpx_trans kfA cA kf4, lvA.trans lv4, own_trans lvA cA c4⟩⟩
      · rw [e0]; exact .ret (kpx_trans kfA cA kf4) (lvA.trans lv4) (S4.unhide (S4.H.sub H0)) (own_trans lvA cA c4) (Rep.unhide fr) q

theorem c_for (Ok : SysOk Y) (TO : TabOk Y k T) {n m m' : Nat} (hb : SndSs Y k T m) (ho : SndSs Y k T m') {σ : Ab} {O : Option Addr} {t iter : Expr} {b o : List Stmt} {pos : Pos} {Q : Fl → Ab → Prop} (hi : okSet iter = true) (ht : okT sc t = true)
    (p : wpX T n sc σ iter fun d cl => cl = true ∧ (iterD d).elim False fun items => forP (fun σ' => wpSs T m sc b σ') (fun σ' => wpSs T m' sc o σ') (bindT sc t) items σ Q) (F : SFr Y env) (S : SSt Y sc env hid s.heap σ O) (R : Room k A) :
    wpAny (model Y.prog Y.w) A (exec (.For t iter b o pos) env) (PostS Y sc env hid O s Q) E s := by
  refine wpAny_For (wpAny_mono (x_sound Ok TO p S R) (fun v s1 q => ?_) fun _ _ x => x) (okSet_fold hi env)
  obtain ⟨u, S1, d, cl, r, rfl, q⟩ := q
  cases hd : iterD d with
  | none => rw [hd] at q; exact q.elim
  | some items =>
    rw [hd] at q
    refine iter_sound Ok hd r S1.g (S1.hidO Ok) R.h fun I h2 fp k2 fI lI hfp it2 => ?_
    obtain ⟨oI, eI, _⟩ := lI
    obtain ⟨h1, tk1, rfl, kp, g⟩ := id u
    have IP : I ≠ Y.P := by
      rintro rfl
      obtain ⟨ps, e⟩ := Ok.tab _ g
      rw [fI] at e; cases e
    have fI0 : s.heap.get? I = none := by
      cases e : s.heap.get? I with
      | none => rfl
      | some o => have := kp I o IP e; rw [fI] at this; cases this
    have S2 : SSt Y sc env (hide hid I) h2 σ O := SSt.hide Ok S1 fI k2 ⟨oI, eI⟩
    refine for_loop Ok hb ho ht F R fI0 (Ok.fresh _ _ g fI) S.H items σ O S2 (by rw [hidO_hide]; exact it2) q ⟨fun b hb => ?_⟩ ⟨h2, tk1, rfl⟩ (fun b o hP hbb e => k2 b o (kp b o hP e)) (fun b o e => ?_) fun a e => .inl e
    · have hl : ∃ o, h2.get? b = some o := by
        by_cases q : b = I
        · rw [q]; exact ⟨oI, eI⟩
        · obtain ⟨o, e, _⟩ := hfp b ((List.mem_cons.mp hb).resolve_left q) q
          exact ⟨o, k2 b o e⟩
      refine ⟨?_, fun z hz => ?_, ?_, hl⟩
      · rintro rfl
        obtain ⟨mm, nm⟩ := S1.ns
        by_cases q : env.locals = I
        · obtain ⟨o, _, _, e, _⟩ := nm
          rw [q, fI] at e; cases e
        · obtain ⟨o, e, e2, _⟩ := hfp _ ((List.mem_cons.mp hb).resolve_left q) q
          rw [ns_isDat nm o e] at e2; cases e2
      · obtain ⟨v, nc⟩ := S1.V.cellAt z b hz
        by_cases q : b = I
        · obtain ⟨o, e, _⟩ := nc
          rw [q, fI] at e; cases e
        · obtain ⟨o, e, e2, _⟩ := hfp _ ((List.mem_cons.mp hb).resolve_left q) q
          rw [cell_isDat nc o e] at e2; cases e2
      · rintro rfl
        by_cases q : b = I
        · obtain ⟨x, xs, e⟩ := S1.own.addr
          have ho := S1.own
          rw [e] at ho
          obtain ⟨_, _, _, _, _, _, vs, ⟨o, e, _⟩, _⟩ := ho
          rw [q, fI] at e; cases e
        · obtain ⟨o, e, e2, e3⟩ := hfp _ ((List.mem_cons.mp hb).resolve_left q) q
          have e4 : hide hid b b = false := e3
          rw [hide_self] at e4; cases e4
    · obtain ⟨o', e'⟩ := Lv.kp Ok kp g b o e
      exact ⟨o', k2 b o' e'⟩
end
end Mine
end
section
set_option tactic.hygienic false
open PySem PySem.W PySem.Calls PyProof.Rows
namespace Mine

theorem wpS_sound {Y : Sys} {T : Tab} {k : Nat} (Ok : SysOk Y) (TO : TabOk Y k T) : ∀ n, (∀ m, m ≤ n → SndS Y k T m) ∧ (∀ m, m ≤ n → SndSs Y k T m) := by
  intro n
  induction n with
  | zero =>
    refine ⟨fun m hm => ?_, fun m hm => ?_⟩
    · obtain rfl : m = 0 := by (first | lia | omega)
      intro sc st σ Q A s env hid O E p
      exact False.elim p
    · obtain rfl : m = 0 := by (first | lia | omega)
      intro sc st σ Q A s env hid O E p
      exact False.elim p
  | succ n ih =>
    obtain ⟨ih1, ih2⟩ := ih
    have hb := ih2 n (Nat.le_refl _)
    have h1 : SndS Y k T (n + 1) := by
      intro sc st σ Q A s env hid O E p F S R
      by_cases hw : ∃ t b wp, st = .While t b [] wp
      · obtain ⟨t, b, wp, rfl⟩ := hw
        exact wpAny_While (while_loop Ok TO F R (n + 1) (fun m hm => ih2 m (Nat.le_of_lt_succ hm)) σ O s p S fun _ _ z => z)
      cases p with
      | setL y py es lp pos hs ho p => exact c_list Ok TO hs ho p F S R
      | swap y py v pos hs hv hsw ho p => exact c_swap Ok TO hs hv hsw ho p F S R
      | set y py v pos hs hv hsw p => exact c_assign Ok TO hs hv hsw p F S R
      | sub x px i pi v pos xs he hv hz hnl p => exact c_sub Ok TO he hv hz (by rintro a b c d rfl; exact absurd hnl Bool.false_ne_true) p F S R
      | aug y py v pos a hs hl p => exact c_aug Ok TO hs hl p F S R
      | app x px ap a cp pos xs he ha hl hz hp p => exact c_append Ok TO he ha hl hz hp p F S R
      | ret e pos p => exact c_return Ok TO p S R
      | ite t b o pos p => exact c_if Ok TO hb p F S R
      | brk pos p => exact c_break p S
      | «for» t iter b o pos hi ht p => exact c_for Ok TO hb hb hi ht p F S R
      | «while» t b pos p => exact absurd ⟨_, _, _, rfl⟩ hw
    refine ⟨fun m hm => ?_, fun m hm => ?_⟩
    · rcases Nat.lt_or_ge m (n + 1) with h | h
      · exact ih1 m (by (first | lia | omega))
      · obtain rfl : m = n + 1 := by (first | lia | omega)
        exact h1
    · rcases Nat.lt_or_ge m (n + 1) with h | h
      · exact ih2 m (by (first | lia | omega))
      · obtain rfl : m = n + 1 := by (first | lia | omega)
        exact sndSs_succ (ih1 n (Nat.le_refl _)) hb
end Mine
end
section
set_option tactic.hygienic false
open PySem PySem.W PySem.Calls PyProof.Rows
namespace Mine

theorem cellsFrom_mem : ∀ (names : List (Str × NameKind)) (n : Nat) (acc : List (Str × Addr)) (x : Str) (c : Addr), (x, c) ∈ cellsFrom n names acc → (x, c) ∈ acc ∨ n ≤ c
  | [], _, _, _, _, h => .inl h
  | (name, kind) :: r, n, acc, x, c, h => by
    unfold cellsFrom at h
    split at h
    · rcases cellsFrom_mem r _ _ x c h with h | h
      · rcases List.mem_cons.mp h with h | h
        · cases h; exact .inr (Nat.le_refl _)
        · exact .inl h
      · exact .inr (Nat.le_of_succ_le h)
    · exact cellsFrom_mem r _ _ x c h
theorem cellsFrom_acc : ∀ (names : List (Str × NameKind)) (n : Nat) (acc : List (Str × Addr)) (x : Str), (acc.lookup x).isSome = true → ((cellsFrom n names acc).lookup x).isSome = true
  | [], _, _, _, h => h
  | (name, kind) :: r, n, acc, x, h => by
    unfold cellsFrom
    split
    · refine cellsFrom_acc r _ _ x ?_
      rw [List.lookup_cons]
      split
      · rfl
      · exact h
    · exact cellsFrom_acc r _ _ x h
theorem cellsFrom_has : ∀ (names : List (Str × NameKind)) (n : Nat) (acc : List (Str × Addr)) (x : Str), names.lookup x = some .cell → ((cellsFrom n names acc).lookup x).isSome = true
  | (name, kind) :: r, n, acc, x, h => by
    rw [List.lookup_cons] at h
    unfold cellsFrom
    split at h
    · rename_i hx
      cases h
      rw [if_pos (by rfl)]
      refine cellsFrom_acc r _ _ x ?_
      rw [List.lookup_cons, hx]
      rfl
    · split
      · exact cellsFrom_has r _ _ x h
      · exact cellsFrom_has r _ _ x h

theorem bindL_out (kindOf : Str → Option NameKind) {x : Str} : ∀ (binds : List (Str × Value)) (m : Str → Option Value), (∀ p ∈ binds, p.1 ≠ x) → bindL kindOf binds m x = m x
  | [], _, _ => rfl
  | (n, v) :: r, m, h => by
    unfold bindL
    rw [bindL_out kindOf r _ fun p hp => h p (.tail _ hp)]
    split
    · exact if_neg fun q => h (n, v) (.head _) q.symm
    · rfl
theorem bindC_out (kindOf : Str → Option NameKind) {x : Str} : ∀ (binds : List (Str × Value)) (m : Str → Option Value), (∀ p ∈ binds, p.1 ≠ x) → bindC kindOf binds m x = m x
  | [], _, _ => rfl
  | (n, v) :: r, m, h => by
    unfold bindC
    rw [bindC_out kindOf r _ fun p hp => h p (.tail _ hp)]
    split
    · rfl
    · exact if_neg fun q => h (n, v) (.head _) q.symm
theorem bindL_in (kindOf : Str → Option NameKind) {x : Str} {v : Value} : ∀ (binds : List (Str × Value)) (m : Str → Option Value), (binds.map (·.1)).Nodup → (x, v) ∈ binds → kindOf x = some .local → bindL kindOf binds m x = some v
  | (n, w) :: r, m, nd, h, hk => by
    unfold bindL
    simp only [List.map_cons, List.nodup_cons] at nd
    rcases List.mem_cons.mp h with h | h
    · cases h
      rw [bindL_out kindOf r _ fun p hp q => nd.1 (List.mem_map.mpr ⟨p, hp, q⟩), if_pos hk]
      exact if_pos rfl
    · exact bindL_in kindOf r _ nd.2 h hk
theorem bindC_in (kindOf : Str → Option NameKind) {x : Str} {v : Value} : ∀ (binds : List (Str × Value)) (m : Str → Option Value), (binds.map (·.1)).Nodup → (x, v) ∈ binds → kindOf x = some .cell → bindC kindOf binds m x = some v
  | (n, w) :: r, m, nd, h, hk => by
    unfold bindC
    simp only [List.map_cons, List.nodup_cons] at nd
    rcases List.mem_cons.mp h with h | h
    · cases h
      rw [bindC_out kindOf r _ fun p hp q => nd.1 (List.mem_map.mpr ⟨p, hp, q⟩), if_neg (by rw [hk]; simp)]
      exact if_pos rfl
    · exact bindC_in kindOf r _ nd.2 h hk

theorem zip_rep {g : View} : ∀ {names : List Str} {vs : List Value} {ds : List D}, RepL g vs ds → ∀ {x : Str} {d : D}, (names.zip ds).lookup x = some d → ∃ v, (x, v) ∈ names.zip vs ∧ Rep g v d
  | [], _, _, _, _, _, h => by simp at h
  | _ :: _, _, _, .nil, _, _, h => by simp at h
  | n :: r, _, _, .cons (v := v) a b, x, d, h => by
    simp only [List.zip_cons_cons, List.lookup_cons] at h
    split at h
    · rename_i hx
      cases h
      have : x = n := by simpa using hx
      subst this
      exact ⟨v, .head _, a⟩
    · obtain ⟨w, hw, rw'⟩ := zip_rep b h
      exact ⟨w, .tail _ hw, rw'⟩

theorem zip_fst {α β : Type} : ∀ {xs : List α} {ys : List β}, ys.length = xs.length → (xs.zip ys).map (·.1) = xs
  | [], [], _ => rfl
  | x :: xs, y :: ys, h => by simp [zip_fst (xs := xs) (ys := ys) (by simpa using h)]

structure FnAt (Y : Sys) (a : Addr) (fd : FuncData) (body : List Stmt) (names : List Str) : Prop where
  at_ : ∀ h, Y.G h → ∃ o, h.get? a = some o ∧ o.data = .func fd ∧ h.CodeRec fd.code fd.qualname
  hbody : fd.body = .stmts body
  hclo : fd.closure = []
  hglob : fd.globals = mainGlobals
  hbui : fd.builtins = builtinsNs
  hbind : ∀ vals : List Value, vals.length = names.length → bindArgs fd ⟨vals, []⟩ = pure (names.zip vals)
  nd : names.Nodup
  st : names.all (storable fd.scope) = true
  ncd : fd.scope.names.all (fun p => !(p.1 == ("__classdict__" : Str))) = true
  hco : fd.scope.isCoroutine = false
  hgen : fd.scope.isGenerator = false
  hk : fd.scope.kind = .function

/-- what a def's frame begins with -/
theorem fn_frame {Y : Sys} (Ok : SysOk Y) {a : Addr} {fd : FuncData} {body : List Stmt} {names : List Str} (N : FnAt Y a fd body names) {A : Around} {s : Shared} {hid : Addr → Bool} {args : List Value} {ds : List D} {Q : Value → Shared → Prop} {E : Value → Shared → Prop}
    {k : Nat} (R : Room (k + 1) A) (g : Y.G s.heap) (H : HidOk Y hid s.heap) (r : RepL (vis s.heap hid) args ds) (hl : ds.length = names.length)
    (h : ∀ (env : Env) (s₁ : Shared), (∃ h tk, s₁ = { s with heap := h, toks := tk }) → (∀ b o, s.heap.get? b = some o → s₁.heap.get? b = some o) → s.heap.get? env.locals = none → (∀ z c, env.cells.lookup z = some c → s.heap.get? c = none) → SFr Y env → SSt Y fd.scope env hid s₁.heap ⟨names.zip ds, none, true⟩ none → (∀ E', wpAny (model Y.prog Y.w) (A.deeper env) (execs body env) (fun f s' => Q (match f with | .ret v => v | _ => .none) s') E' s₁)) :
    wpAny (model Y.prog Y.w) A (call (.ref a) args) Q E s := by
  obtain ⟨o, ho, hd, hc⟩ := N.at_ _ g
  have hlen : args.length = names.length := by rw [r.length, hl]
  have hzf := zip_fst (xs := names) (ys := args) hlen
  refine wpAny_call (codeAny_call_cells (by have := R.d; omega) ho hd (Ok.nolim _ g) hc N.hbody (N.hbind args hlen) N.hclo (fun x hx => ?_) (fun s₁ X => ?_) N.hco N.hgen N.hk)
  · have hm : x.1 ∈ names := (List.of_mem_zip hx).1
    have := List.all_eq_true.mp N.st _ hm
    unfold storable at this
    simp only [Bool.and_eq_true, Bool.or_eq_true, beq_iff_eq] at this
    rcases this.1 with q | q
    · exact .inl q
    · exact .inr ⟨q, cellsFrom_has _ _ _ _ q⟩
  · generalize he : callEnvC fd s.heap.objs.size a = env at X ⊢
    have eL : env.locals = s.heap.objs.size := by rw [← he]; rfl
    have eC : env.cells = cellsFrom (s.heap.objs.size + 1) fd.scope.names [] := by rw [← he]; rfl
    have eS : env.scope = fd.scope := by rw [← he]; rfl
    have ek : ∀ x, env.kindOf x = fd.scope.names.lookup x := fun x => by rw [← he]; rfl
    have fL : s.heap.get? env.locals = none := by rw [eL]; exact get_size _
    have fC : ∀ z c, env.cells.lookup z = some c → s.heap.get? c = none := fun z c e => by
      rw [eC] at e
      have hm := mem_of_lookup e
      rcases cellsFrom_mem _ _ _ _ _ hm with q | q
      · cases q
      · cases e2 : s.heap.get? c with
        | none => rfl
        | some o => exact absurd (Heap.lt_size e2) (Nat.not_lt.mpr (Nat.le_of_succ_le q))
    have kp := X.toInCall.keep
    have g1 := Ok.mono _ _ g kp
    have H1 : HidOk Y hid s₁.heap := H.up (.of kp) (let ⟨_, e⟩ := Ok.tab _ g1; ⟨_, e⟩)
    have Fr : SFr Y env := by
      refine ⟨fun x y c e1 e2 => ?_, fun x c e => Ok.fresh _ _ g (fC x c e)⟩
      have m1 := mem_of_lookup e1
      have m2 := mem_of_lookup e2
      have ap := X.apart
      by_cases hxy : x = y
      · exact hxy
      · exfalso
        have key : ∀ (cs : List (Str × Addr)), cs.Pairwise (fun x y => x.2 ≠ y.2) → (x, c) ∈ cs → (y, c) ∈ cs → False := by
          intro cs hp h1 h2
          induction cs with
          | nil => cases h1
          | cons q r ih =>
            cases hp with
            | cons hq hr =>
              rcases List.mem_cons.mp h1 with h1 | h1
              · rcases List.mem_cons.mp h2 with h2 | h2
                · exact hxy (congrArg Prod.fst (h1.trans h2.symm))
                · exact hq _ h2 (by rw [← h1])
              · rcases List.mem_cons.mp h2 with h2 | h2
                · exact hq _ h1 (by rw [← h2])
                · exact ih hr h1 h2
        exact key _ ap m1 m2
    have V : EnvOk Y fd.scope env s₁.heap hid (names.zip ds) := by
      refine ⟨by rw [eS]; exact N.hk, eS, by rw [← he]; exact N.hglob, by rw [← he]; exact N.hbui, Ok.fresh _ _ g fL, fun x hx => ⟨?_, ?_⟩, fun z c e => ⟨_, X.cell z c e⟩, fun x d hx => ?_⟩
      · have := List.all_eq_true.mp N.ncd _ (mem_of_lookup hx)
        simpa using this
      · rw [eC]; exact Option.isSome_iff_exists.mp (cellsFrom_has _ _ _ _ hx)
      · obtain ⟨v, hv, rv⟩ := zip_rep (names := names) r hx
        have hm : x ∈ names := (List.of_mem_zip hv).1
        have hst := List.all_eq_true.mp N.st _ hm
        unfold storable at hst
        simp only [Bool.and_eq_true, Bool.or_eq_true, beq_iff_eq, Bool.not_eq_true'] at hst
        refine ⟨hst.2, v, ?_, rv.up H.p (Kp.of kp)⟩
        rcases hst.1 with q | q
        · have kl : env.kindOf x = some .local := by rw [ek]; exact q
          exact .inl ⟨kl, _, X.toInCall.ns, bindL_in _ _ _ (by rw [hzf]; exact N.nd) hv kl⟩
        · have kc : env.kindOf x = some .cell := by rw [ek]; exact q
          obtain ⟨c, hc⟩ := Option.isSome_iff_exists.mp (cellsFrom_has fd.scope.names (s.heap.objs.size + 1) [] x q)
          rw [← eC] at hc
          refine .inr ⟨.inl kc, ?_, c, hc, ?_⟩
          · have := List.all_eq_true.mp N.ncd _ (mem_of_lookup q)
            simpa using this
          · have := X.cell x c hc
            rw [bindC_in _ _ _ (by rw [hzf]; exact N.nd) hv kc] at this
            exact this
    refine wpAny_mono (h env s₁ X.toInCall.same kp fL fC Fr ⟨V, g1, H1, ⟨_, X.toInCall.ns⟩, trivial⟩ _) (fun f s' q => ?_) fun _ _ x => x
    exact q

theorem fn_ok {Y : Sys} {T : Tab} {k n : Nat} (Ok : SysOk Y) (TO : TabOk Y k T) {a : Addr} {fd : FuncData} {body : List Stmt} {names : List Str} (N : FnAt Y a fd body names) {S : Spec}
    (hS : ∀ ds Q, S ds Q → ds.length = names.length ∧ wpSs T n fd.scope body ⟨names.zip ds, none, true⟩ fun fl _ => match fl with | .ret d => Q d | _ => False) : FnOk Y (k + 1) a S := by
  intro A s hid args ds Q E R g H r p
  obtain ⟨hl, p⟩ := hS ds Q p
  refine fn_frame Ok N R g H r hl fun env s₁ sm kp fL fC Fr S E' => ?_
  obtain ⟨h1, tk1, rfl⟩ := sm
  refine wpAny_mono ((wpS_sound Ok TO n).2 n (Nat.le_refl _) _ _ _ _ _ _ env hid none E' p Fr S (R.deeper env)) (fun fl s' q => ?_) fun _ _ x => x
  obtain ⟨h', tk, σ', O', f, rfl, kx, lv, S', c, fr, q⟩ := q
  cases f <;> first | exact q.elim | skip
  cases fl <;> first | exact fr.elim | skip
  refine ⟨⟨h', tk, rfl, fun b o hP e => kx b o hP ⟨?_, fun z hz => ?_, by simp⟩ (kp b o e), S'.g⟩, _, fr, q⟩
  · rintro rfl; rw [fL] at e; cases e
  · rw [fC z b hz] at e; cases e
end Mine
end
section
set_option tactic.hygienic false
open PySem PySem.W PySem.Calls PyProof.Rows
namespace Mine
noncomputable def notListE (e : Expr) : Bool := !Nat.beq e.ctorIdx 24
noncomputable def notSl (e : Expr) : Bool := !Nat.beq e.ctorIdx 26

section
variable {T : Tab} {n : Nat} {sc : Scope} {ρ : List (Str × D)} {Q : D → Prop} {p : Pos}

theorem eInt {i : Int} {k : Nat} (h : Q (.int i)) : wpE T (n + 1) sc ρ (.Constant (.int i) k p) Q := EP.int _ _ _ h
end

section
variable {T : Tab} {n : Nat} {sc : Scope} {ρ : List (Str × D)} {Q : D → Prop} {p : Pos}
theorem eStr {x : Str} {k} (h : Q (.str x)) : wpE T (n + 1) sc ρ (.Constant (.str x) k p) Q := EP.str _ _ _ h
theorem eBool {b : Bool} {k} (h : Q (.bool b)) : wpE T (n + 1) sc ρ (.Constant (.bool b) k p) Q := EP.bool _ _ _ h
theorem eName {x : Str} {d : D} (hl : ρ.lookup x = some d) (h : Q d) : wpE T (n + 1) sc ρ (.Name x p) Q := EP.name _ _ d hl h
theorem eGlob {x : Str} {d : D} (hl : ρ.lookup x = none) (hg : (globalKind sc x && !(x == ("__debug__" : Str))) = true) (hc : T.C x = some d) (h : Q d) : wpE T (n + 1) sc ρ (.Name x p) Q := by
  rw [Bool.and_eq_true, Bool.not_eq_true'] at hg
  exact EP.glob _ _ d hg.1 hg.2 hc h
theorem eBin {l r : Expr} {op : Operator} (h : wpE T n sc ρ l fun a => wpE T n sc ρ r fun b => binP T op a b Q) : wpE T (n + 1) sc ρ (.BinOp l op r p) Q := EP.bin _ _ _ _ h
theorem eNeg {i : Int} {k} {p' : Pos} (h : Q (.int (-i))) : wpE T (n + 1) sc ρ (.UnaryOp .USub (.Constant (.int i) k p') p) Q := EP.neg _ _ _ _ h
theorem eCmp {l r : Expr} {op : CmpOp} (hb : behindInMarks op r = false) (h : wpE T n sc ρ l fun a => wpE T n sc ρ r fun b => cmpP op a b fun t => Q (.bool t)) : wpE T (n + 1) sc ρ (.Compare l [op] [r] p) Q := EP.cmp _ _ _ _ hb h
theorem eAnd {x y z : Expr} (h : wpE T n sc ρ x fun a => truthP a fun b => bif b then (wpE T n sc ρ y fun a' => truthP a' fun b' => bif b' then wpE T n sc ρ z Q else Q a') else Q a) : wpE T (n + 1) sc ρ (.BoolOp .And [x, y, z] p) Q := EP.and3 _ _ _ _ h
theorem eIf {t b o : Expr} {x y : D} (hx : constD b = some x) (hy : constD o = some y) (h : wpT (wpE T n sc ρ) n t fun c => Q (mergeD c x y)) : wpE T (n + 1) sc ρ (.IfExp t b o p) Q := EP.ife _ _ _ _ x y hx hy h
theorem eCall {f : Str} {pf : Pos} {a : Expr} {as : List Expr} {S : Spec} (hg : (globalKind sc f && !(f == ("__debug__" : Str))) = true) (hF : T.F f = some S) (ha : (a :: as).all okArg = true) (h : wpEs (wpE T n sc ρ) (a :: as) fun ds => S ds Q) : wpE T (n + 1) sc ρ (.Call (.Name f pf) (a :: as) [] p) Q := by
  rw [Bool.and_eq_true, Bool.not_eq_true'] at hg
  exact EP.call _ _ _ _ S hg.1 hg.2 hF (List.cons_ne_nil _ _) ha h
theorem eBi1 {f : Str} {pf : Pos} {a : Expr} (hg : (globalKind sc f && !(f == ("__debug__" : Str))) = true) (hF : T.F f = none) (ha : okArg a = true) (hb : (biVal f).isSome = true) (h : wpE T n sc ρ a fun d => biP f [d] Q) : wpE T (n + 1) sc ρ (.Call (.Name f pf) [a] [] p) Q := by
  rw [Bool.and_eq_true, Bool.not_eq_true'] at hg
  exact EP.bi _ _ _ _ hg.1 hg.2 (List.cons_ne_nil _ _) (by rw [List.all_cons, ha]; rfl) hb ⟨ha, h⟩
theorem eBi3 {f : Str} {pf : Pos} {a b c : Expr} (hg : (globalKind sc f && !(f == ("__debug__" : Str))) = true) (hF : T.F f = none) (ha : ([a, b, c]).all okArg = true) (hb : (biVal f).isSome = true) (h : wpEs (wpE T n sc ρ) [a, b, c] fun ds => biP f ds Q) : wpE T (n + 1) sc ρ (.Call (.Name f pf) [a, b, c] [] p) Q := by
  rw [Bool.and_eq_true, Bool.not_eq_true'] at hg
  exact EP.bi _ _ _ _ hg.1 hg.2 (List.cons_ne_nil _ _) ha hb h
theorem eIsi {pf pt : Pos} {a : Expr} {t : Str} (hg : (globalKind sc (Str.ofString "isinstance") && globalKind sc t && !(t == ("__debug__" : Str))) = true) (hF : T.F (Str.ofString "isinstance") = none) (ha : okArg a = true) (h : wpE T n sc ρ a fun d => isiP t d Q) : wpE T (n + 1) sc ρ (.Call (.Name (Str.ofString "isinstance") pf) [a, .Name t pt] [] p) Q := by
  simp only [Bool.and_eq_true, Bool.not_eq_true'] at hg
  exact EP.isi _ _ _ _ _ hg.1.1 hg.1.2 hg.2 ha h
theorem eMeth {o a : Expr} {m : Str} {ap : Pos} (hs : ((ap.endLine == p.line) && okBase o && okArg a && (methId m).isSome) = true) (h : wpE T n sc ρ o fun d => isStr d = true ∧ wpE T n sc ρ a fun b => methP m d [b] Q) : wpE T (n + 1) sc ρ (.Call (.Attribute o m ap) [a] [] p) Q := by
  simp only [Bool.and_eq_true] at hs
  exact EP.meth _ _ _ _ _ hs.1.1.1 hs.1.1.2 hs.1.2 hs.2 h
theorem eSlice {v : Expr} {lo hi st : Option Expr} {sp : Pos} (h : wpE T n sc ρ v fun d => wpOpt (wpE T n sc ρ) lo fun a => wpOpt (wpE T n sc ρ) hi fun b => wpOpt (wpE T n sc ρ) st fun c => sliceP d a b c Q) : wpE T (n + 1) sc ρ (.Subscript v (.Slice lo hi st sp) p) Q := EP.slice _ _ _ _ _ _ h
theorem eItem {v i : Expr} (hi : notSl i = true) (h : wpE T n sc ρ v fun a => wpE T n sc ρ i fun b => getP a b Q) : wpE T (n + 1) sc ρ (.Subscript v i p) Q := EP.item _ _ _ h
theorem eList {es : List Expr} (h : wpEs (wpE T n sc ρ) es fun ds => ds.length ≤ sizeLine ∧ Q (.list ds)) : wpE T (n + 1) sc ρ (.List es p) Q := EP.list _ _ h
theorem eTuple {es : List Expr} {k} (h : wpEs (wpE T n sc ρ) es fun ds => ds.length ≤ sizeLine ∧ Q (.tuple ds)) : wpE T (n + 1) sc ρ (.Tuple es k p) Q := EP.tuple _ _ _ h
theorem eComp1 {elt iter : Expr} {x : Str} {px : Pos} {ifs : List Expr} {scope : Scope} (hk : (compOk scope sc [x] && okSet iter) = true)
    (h : wpE T n sc ρ iter fun d => (iterD d).elim False fun items => items.length ≤ sizeLine ∧ comp1 x ifs elt (fun ρ' => wpE T n (relabelS scope sc) ρ') (fun ρ' => wpT (wpE T n (relabelS scope sc) ρ') n) items (capt scope ρ) [] fun _ ds => Q (.list ds)) :
    wpE T (n + 1) sc ρ (.ListComp elt [⟨.Name x px, iter, ifs, 0⟩] scope p) Q := by
  rw [Bool.and_eq_true] at hk
  exact EP.comp _ _ _ _ _ _ _ hk.1 hk.2 h
theorem eComp2 {elt iter iter2 : Expr} {x y : Str} {px py : Pos} {scope : Scope} (hk : (compOk scope sc [x, y] && okSet iter && okSet iter2 && !(x == y)) = true)
    (h : wpE T n sc ρ iter fun d => (iterD d).elim False fun items => comp2 x y iter2 elt (fun ρ' => wpE T n (relabelS scope sc) ρ') (fun ρ' => wpT (wpE T n (relabelS scope sc) ρ') n) items (capt scope ρ) [] fun ds => Q (.list ds)) :
    wpE T (n + 1) sc ρ (.ListComp elt [⟨.Name x px, iter, [], 0⟩, ⟨.Name y py, iter2, [], 0⟩] scope p) Q := by
  simp only [Bool.and_eq_true, Bool.not_eq_true'] at hk
  exact EP.comp2 _ _ _ _ _ _ _ _ _ hk.1.1.1 hk.1.1.2 hk.1.2 hk.2 h
end

section
variable {ev : Expr → (D → Prop) → Prop} {Q : List D → Prop} {e : Expr} {r : List Expr}
theorem esNil (h : Q []) : wpEs ev [] Q := h
theorem esCons (ha : okArg e = true) (h : ev e fun d => wpEs ev r fun ds => Q (d :: ds)) : wpEs ev (e :: r) Q := ⟨ha, h⟩
theorem opNone {Q : Option D → Prop} (h : Q none) : wpOpt ev none Q := h
theorem opSome {Q : Option D → Prop} (h : ev e fun d => Q (some d)) : wpOpt ev (some e) Q := h
end

section
variable {ev : Expr → (D → Prop) → Prop} {n : Nat} {Q : Bool → Prop} {p : Pos}
theorem tNot {x : Expr} (h : wpT ev n x fun b => Q (!b)) : wpT ev (n + 1) (.UnaryOp .Not x p) Q := TP.not _ _ h
theorem tOr {x y : Expr} (h : wpT ev n x fun b => bif b then Q true else wpT ev n y Q) : wpT ev (n + 1) (.BoolOp .Or [x, y] p) Q := TP.or _ _ _ h
theorem tCmp {l r : Expr} {op : CmpOp} (hb : behindInMarks op r = false) (h : ev l fun a => ev r fun b => cmpP op a b Q) : wpT ev (n + 1) (.Compare l [op] [r] p) Q := TP.cmp _ _ _ _ hb h
theorem tVal {e : Expr} (he : plainT e = true) (h : ev e fun d => truthP d Q) : wpT ev (n + 1) e Q := TP.val _ he h
theorem trBool {b : Bool} (h : Q b) : truthP (.bool b) Q := TruthP.bool _ h
theorem trList {xs : List D} (hl : xs.length ≤ sizeLine) (h : Q (!xs.isEmpty)) : truthP (.list xs) Q := TruthP.list _ hl h
theorem condT {A B : Prop} (h : A) : (bif true then A else B) := h
theorem condF {A B : Prop} (h : B) : (bif false then A else B) := h
end

section
variable {T : Tab} {Q : D → Prop}
theorem bAdd {a b : Int} (h : Q (.int (a + b))) : binP T .Add (.int a) (.int b) Q := BinP.addI _ _ h
theorem bSub {a b : Int} (h : Q (.int (a - b))) : binP T .Sub (.int a) (.int b) Q := BinP.subI _ _ h
theorem bSubB {a b : Bool} (h : Q (.int (b2n a - b2n b))) : binP T .Sub (.bool a) (.bool b) Q := BinP.subB _ _ h
theorem bMul {a b : Int} (hs : Sm a ∨ Sm b) (h : Q (.int (a * b))) : binP T .Mult (.int a) (.int b) Q := BinP.mul _ _ hs h
theorem bDiv {a b : Int} (h0 : 0 < b ∧ b < 2 ^ 63) (h : Q (.int (Int.fdiv a b))) : binP T .FloorDiv (.int a) (.int b) Q := BinP.div _ _ h0 h
theorem bMod {a b : Int} (h0 : b ≠ 0) (h : Q (.int (Int.fmod a b))) : binP T .Mod (.int a) (.int b) Q := BinP.mod _ _ h0 h
theorem bPow {a b : Int} (h0 : 0 ≤ b ∧ (Builtin.Int.intBits a : Int) * b ≤ 2 ^ 27) (h : Q (.int (a ^ b.toNat))) : binP T .Pow (.int a) (.int b) Q := BinP.pow _ _ h0 h
theorem bAnd {a b : Int} (h : Q (.int (Builtin.bitAnd a b))) : binP T .BitAnd (.int a) (.int b) Q := BinP.and _ _ h
theorem bXor {a b : Int} (h : Q (.int (Builtin.bitXor a b))) : binP T .BitXor (.int a) (.int b) Q := BinP.xor _ _ h
theorem bStr {x y : Str} (hl : x.length + y.length ≤ sizeLine) (h : Q (.str (x ++ y))) : binP T .Add (.str x) (.str y) Q := BinP.addS _ _ hl h
theorem bList {x y : List D} (hl : x.length + y.length ≤ sizeLine) (h : Q (.list (x ++ y))) : binP T .Add (.list x) (.list y) Q := BinP.addL _ _ hl h
theorem bFmt {f x : Str} {ds : List D} (hx : T.M f ds = some x) (h : Q (.str x)) : binP T .Mod (.str f) (.tuple ds) Q := BinP.fmt _ _ _ hx h
end

section
variable {Q : D → Prop}
theorem gList {xs : List D} {i : Int} {j : Nat} {d : D} (hi : -(2 ^ 63) ≤ i ∧ i < 2 ^ 63) (hj : seqIndex? i xs.length = some j) (hd : xs[j]? = some d) (h : Q d) : getP (.list xs) (.int i) Q := GetP.list _ _ j d hi hj hd h
theorem gTuple {xs : List D} {i : Int} {j : Nat} {d : D} (hi : -(2 ^ 63) ≤ i ∧ i < 2 ^ 63) (hj : seqIndex? i xs.length = some j) (hd : xs[j]? = some d) (h : Q d) : getP (.tuple xs) (.int i) Q := GetP.tuple _ _ j d hi hj hd h
theorem gStr {x : Str} {i : Int} (hi : 0 ≤ i ∧ i < x.length ∧ i < 2 ^ 63) (h : Q (.str (strAt x i.toNat))) : getP (.str x) (.int i) Q := GetP.str _ _ hi h
theorem gBytes {b : Array UInt8} {i : Int} {c : UInt8} (hi : 0 ≤ i ∧ b.size ≤ sizeLine) (hc : b.toList[i.toNat]? = some c) (h : Q (.int c.toNat)) : getP (.bytes b) (.int i) Q := GetP.bytes _ _ c hi hc h
end

section
variable {T : Tab} {n : Nat} {sc : Scope} {Q : Fl → Ab → Prop} {p : Pos} {σ : Ab}
theorem ssNil (h : Q .next σ) : wpSs T (n + 1) sc [] σ Q := h
theorem ssCons {st : Stmt} {r : List Stmt} (h : wpS T n sc st σ (thenS (fun σ' => wpSs T n sc r σ' Q) Q)) : wpSs T (n + 1) sc (st :: r) σ Q := h
theorem thNext {k : Ab → Prop} (h : k σ) : thenS k Q .next σ := h
theorem thRet {k : Ab → Prop} {d : D} (h : Q (.ret d) σ) : thenS k Q (.ret d) σ := h
theorem thBrk {k : Ab → Prop} (h : Q .brk σ) : thenS k Q .brk σ := h
/-- a name is set, where no list is the frame's own -/
theorem sSet {y : Str} {py : Pos} {v : Expr} {ρ : List (Str × D)} (hs : (storable sc y && okVal v && !(swaps sc y py v) && notListE v) = true) (h : wpE T n sc ρ v fun d => Q .next ⟨setV y d ρ, none, true⟩) :
    wpS T (n + 1) sc (.Assign [.Name y py] v p) ⟨ρ, none, true⟩ Q := by
  simp only [Bool.and_eq_true, Bool.not_eq_true'] at hs
  exact SP.set _ _ _ _ hs.1.1.1 hs.1.1.2 hs.1.2 h
theorem sSwap {y : Str} {py : Pos} {v : Expr} {ρ : List (Str × D)} (hs : (storable sc y && okVal v && swaps sc y py v && notListE v) = true) (h : wpE T n sc ρ v fun d => Q .next ⟨setV y d ρ, none, true⟩) :
    wpS T (n + 1) sc (.Assign [.Name y py] v p) ⟨ρ, none, true⟩ Q := by
  simp only [Bool.and_eq_true] at hs
  exact SP.swap _ _ _ _ hs.1.1.1 hs.1.1.2 hs.1.2 rfl h
/-- a name is set to a new list that is kept as a value -/
theorem sList {y : Str} {py lp : Pos} {es : List Expr} {ρ : List (Str × D)} (hs : storable sc y = true) (h : wpEs (wpE T n sc ρ) es fun ds => ds.length ≤ sizeLine ∧ (bif ds.all imm then Q .next ⟨eraseV y ρ, some (y, ds), true⟩ else Q .next ⟨setV y (.list ds) ρ, none, true⟩)) :
    wpS T (n + 1) sc (.Assign [.Name y py] (.List es lp) p) ⟨ρ, none, true⟩ Q := SP.setL _ _ _ _ _ hs rfl h
theorem wpX_o {ρ : List (Str × D)} {x : Str} {xs : List D} {pl : Bool} {e : Expr} {K : D → Bool → Prop} (hu : usesE x 20 e = false) (h : wpE T n sc ρ e fun d => K d true) : wpX T n sc ⟨ρ, some (x, xs), pl⟩ e K := by
  show bif usesE x 20 e then _ else _
  rw [hu]; exact h
theorem wpX_u {ρ : List (Str × D)} {x : Str} {xs : List D} {pl : Bool} {e : Expr} {K : D → Bool → Prop} (hu : usesE x 20 e = true) (h : wpE T n sc (setV x (.list xs) ρ) e fun d => K d false) : wpX T n sc ⟨ρ, some (x, xs), pl⟩ e K := by
  show bif usesE x 20 e then _ else _
  rw [hu]; exact h
theorem setO_eq {d : D} {ρ : List (Str × D)} {x y : Str} {xs : List D} {pl : Bool} (h : (x == y) = false) : Ab.set y d ⟨ρ, some (x, xs), pl⟩ = ⟨setV y d ρ, some (x, xs), pl⟩ := by
  unfold Ab.set
  simp only [h]
  rfl
/-- a name is set, where a list is the frame's own; the value does not name it, or is plain -/
theorem sSetO {y x : Str} {py : Pos} {v : Expr} {ρ : List (Str × D)} {xs : List D} {pl : Bool} (hs : (storable sc y && okVal v && !(swaps sc y py v) && !(usesE x 20 v) && !(x == y)) = true) (h : wpE T n sc ρ v fun d => Q .next ⟨setV y d ρ, some (x, xs), pl⟩) :
    wpS T (n + 1) sc (.Assign [.Name y py] v p) ⟨ρ, some (x, xs), pl⟩ Q := by
  simp only [Bool.and_eq_true, Bool.not_eq_true'] at hs
  obtain ⟨⟨⟨⟨h1, h2⟩, h3⟩, h4⟩, h5⟩ := hs
  exact SP.set _ _ _ _ h1 h2 h3 (wpX_o h4 (cast (congrArg (wpE T n sc ρ v) (funext fun d => congrArg (Q .next) (setO_eq h5).symm)) h))
theorem sSetU {y x : Str} {py : Pos} {v : Expr} {ρ : List (Str × D)} {xs : List D} {pl : Bool} (hs : (storable sc y && okVal v && !(swaps sc y py v) && usesE x 20 v && !(x == y)) = true)
    (h : wpE T n sc (setV x (.list xs) ρ) v fun d => bif imm d then Q .next ⟨setV y d ρ, some (x, xs), pl⟩ else Q .next ⟨setV y d (setV x (.list xs) ρ), none, true⟩) :
    wpS T (n + 1) sc (.Assign [.Name y py] v p) ⟨ρ, some (x, xs), pl⟩ Q := by
  simp only [Bool.and_eq_true, Bool.not_eq_true'] at hs
  obtain ⟨⟨⟨⟨h1, h2⟩, h3⟩, h4⟩, h5⟩ := hs
  exact SP.set _ _ _ _ h1 h2 h3 (wpX_u h4 (cast (congrArg (wpE T n sc (setV x (.list xs) ρ) v) (funext fun d => congrArg (fun z => bif imm d then Q .next z else Q .next ⟨setV y d (setV x (.list xs) ρ), none, true⟩) (setO_eq h5).symm)) h))
theorem sSub {x : Str} {px pi : Pos} {i v : Expr} {ρ : List (Str × D)} {xs : List D} {pl : Bool} (hs : (okVal v && noComp v) = true) (hz : xs.length ≤ sizeLine)
    (h : wpE T n sc (setV x (.list xs) ρ) v fun d => imm d = true ∧ wpE T n sc (setV x (.list xs) ρ) i fun di => match di with | .int j => (0 ≤ j ∧ j < xs.length) ∧ Q .next ⟨ρ, some (x, xs.set j.toNat d), false⟩ | _ => False) :
    wpS T (n + 1) sc (.Assign [.Subscript (.Name x px) i pi] v p) ⟨ρ, some (x, xs), pl⟩ Q := by
  rw [Bool.and_eq_true] at hs
  exact SP.sub _ _ _ _ _ _ _ rfl hs.1 hz hs.2 h
theorem sAug {y : Str} {py : Pos} {v : Expr} {a : Int} (hs : storable sc y = true) (hl : σ.vars.lookup y = some (.int a)) (h : wpE T n sc σ.vars v fun d => match d with | .int b => Q .next (σ.set y (.int (a + b))) | _ => False) :
    wpS T (n + 1) sc (.AugAssign (.Name y py) .Add v p) σ Q := SP.aug _ _ _ _ a hs hl h
theorem sApp {x : Str} {px ap cp : Pos} {a : Expr} {ρ : List (Str × D)} {xs : List D} (hs : (okArg a && (ap.endLine == cp.line)) = true) (hz : xs.length < sizeLine) (h : wpE T n sc (setV x (.list xs) ρ) a fun d => imm d = true ∧ Q .next ⟨ρ, some (x, xs ++ [d]), true⟩) :
    wpS T (n + 1) sc (.Expr (.Call (.Attribute (.Name x px) (Str.ofString "append") ap) [a] [] cp) p) ⟨ρ, some (x, xs), true⟩ Q := by
  rw [Bool.and_eq_true] at hs
  exact SP.app _ _ _ _ _ _ _ rfl hs.1 hs.2 hz rfl h
theorem sRet {e : Expr} (h : wpE T n sc σ.all e fun d => Q (.ret d) σ) : wpS T (n + 1) sc (.Return (some e) p) σ Q := SP.ret _ _ h
theorem sIf {t : Expr} {b o : List Stmt} (h : wpT (wpE T n sc σ.all) n t fun c => bif c then wpSs T n sc b σ Q else wpSs T n sc o σ Q) : wpS T (n + 1) sc (.If t b o p) σ Q := SP.ite _ _ _ _ h
theorem sBrk (h : Q .brk σ) : wpS T (n + 1) sc (.Break p) σ Q := SP.brk _ h
theorem sFor {t iter : Expr} {b o : List Stmt} {ρ : List (Str × D)} (hs : (okSet iter && okT sc t) = true) (h : wpE T n sc ρ iter fun d => (iterD d).elim False fun items => forP (fun σ' => wpSs T n sc b σ') (fun σ' => wpSs T n sc o σ') (bindT sc t) items ⟨ρ, none, true⟩ Q) : wpS T (n + 1) sc (.For t iter b o p) ⟨ρ, none, true⟩ Q := by
  rw [Bool.and_eq_true] at hs
  exact SP.for _ _ _ _ _ hs.1 hs.2 (cast (congrArg (wpE T n sc ρ iter) (funext fun d => propext ⟨fun x => ⟨rfl, x⟩, fun x => x.2⟩)) h)
theorem sForO {t iter : Expr} {b o : List Stmt} {ρ : List (Str × D)} {x : Str} {xs : List D} {pl : Bool} (hs : (okSet iter && okT sc t && !(usesE x 20 iter)) = true) (h : wpE T n sc ρ iter fun d => (iterD d).elim False fun items => forP (fun σ' => wpSs T n sc b σ') (fun σ' => wpSs T n sc o σ') (bindT sc t) items ⟨ρ, some (x, xs), pl⟩ Q) : wpS T (n + 1) sc (.For t iter b o p) ⟨ρ, some (x, xs), pl⟩ Q := by
  simp only [Bool.and_eq_true, Bool.not_eq_true'] at hs
  exact SP.for _ _ _ _ _ hs.1.1 hs.1.2 (wpX_o hs.2 (cast (congrArg (wpE T n sc ρ iter) (funext fun d => propext ⟨fun x => ⟨rfl, x⟩, fun x => x.2⟩)) h))
end
end Mine
end
section
set_option tactic.hygienic false
open PySem PySem.W PySem.Calls PyProof.Rows
namespace Mine

theorem str_inj (a b : String) (h : Str.ofString a = Str.ofString b) : a = b := by
  rw [Str.ofString_eq_toList, Str.ofString_eq_toList] at h
  have h1 := congrArg (fun x : Str => x.cps.toList) h
  simp only at h1
  have h2 : a.toList = b.toList := List.map_inj_right (fun x y e => Char.toNat_inj.mp e) |>.mp h1
  exact String.toList_inj.mp h2
theorem str_beq (a b : String) : (Str.ofString a == Str.ofString b) = (a == b) := by
  by_cases h : a = b
  · subst h; simp
  · have : Str.ofString a ≠ Str.ofString b := fun q => h (str_inj a b q)
    rw [beq_eq_false_iff_ne.mpr this, beq_eq_false_iff_ne.mpr h]

section
variable {T : Tab} {n : Nat} {sc : Scope} {Q : Fl → Ab → Prop} {p : Pos} {σ : Ab} {ρ ρ' : List (Str × D)}
/-- a new name is set -/
theorem sNew {y : Str} {py : Pos} {v : Expr} (hs : (storable sc y && okVal v && !(swaps sc y py v) && notListE v) = true) (h : wpE T n sc ρ v fun d => ∀ ρ', setV y d ρ = ρ' → Q .next ⟨ρ', none, true⟩) :
    wpS T (n + 1) sc (.Assign [.Name y py] v p) ⟨ρ, none, true⟩ Q := by
  refine sSet hs (cast ?_ h)
  refine congrArg (wpE T n sc ρ v) ?_
  funext d
  exact propext ⟨fun x => x _ rfl, fun x _ e => e ▸ x⟩
theorem sNewS {y : Str} {py : Pos} {v : Expr} (hs : (storable sc y && okVal v && swaps sc y py v && notListE v) = true) (h : wpE T n sc ρ v fun d => ∀ ρ', setV y d ρ = ρ' → Q .next ⟨ρ', none, true⟩) :
    wpS T (n + 1) sc (.Assign [.Name y py] v p) ⟨ρ, none, true⟩ Q := by
  refine sSwap hs (cast ?_ h)
  refine congrArg (wpE T n sc ρ v) ?_
  funext d
  exact propext ⟨fun x => x _ rfl, fun x _ e => e ▸ x⟩
theorem sNewO {y x : Str} {py : Pos} {v : Expr} {xs : List D} {pl : Bool} (hs : (storable sc y && okVal v && !(swaps sc y py v) && !(usesE x 20 v) && !(x == y)) = true) (h : wpE T n sc ρ v fun d => ∀ ρ', setV y d ρ = ρ' → Q .next ⟨ρ', some (x, xs), pl⟩) :
    wpS T (n + 1) sc (.Assign [.Name y py] v p) ⟨ρ, some (x, xs), pl⟩ Q := by
  refine sSetO hs (cast ?_ h)
  refine congrArg (wpE T n sc ρ v) ?_
  funext d
  exact propext ⟨fun x => x _ rfl, fun x _ e => e ▸ x⟩
theorem setIs {y : Str} {d : D} {K : List (Str × D) → Prop} (e : setV y d ρ = ρ') (h : K ρ') : ∀ ρ', setV y d ρ = ρ' → K ρ' := fun _ q => (q.symm.trans e) ▸ h

theorem coNext {k : Ab → Prop} (h : k σ) : contS k Q .next σ := h
theorem coRet {k : Ab → Prop} {d : D} (h : Q (.ret d) σ) : contS k Q (.ret d) σ := h
theorem coBrk {k : Ab → Prop} (h : Q .next σ) : contS k Q .brk σ := h
section
variable {body orelse : Ab → (Fl → Ab → Prop) → Prop} {bind : D → Ab → Option Ab} {d : D} {r : List D}
theorem fpNil (h : orelse σ Q) : forP body orelse bind [] σ Q := h
theorem fpCons {σ' : Ab} (hb : bind d σ = some σ') (h : body σ' (contS (fun σ'' => forP body orelse bind r σ'' Q) Q)) : forP body orelse bind (d :: r) σ Q := by
  unfold forP
  rw [hb]
  exact h
end
theorem fpName {body orelse : Ab → (Fl → Ab → Prop) → Prop} {d : D} {r : List D} {y : Str} {py : Pos} (hs : storable sc y = true) (h : ∀ ρ', setV y d ρ = ρ' → body ⟨ρ', none, true⟩ (contS (fun σ'' => forP body orelse (bindT sc (.Name y py)) r σ'' Q) Q)) :
    forP body orelse (bindT sc (.Name y py)) (d :: r) ⟨ρ, none, true⟩ Q := fpCons (by unfold bindT; simp only [hs]; rfl) (h _ rfl)
theorem fpNameO {body orelse : Ab → (Fl → Ab → Prop) → Prop} {d : D} {r : List D} {y x : Str} {xs : List D} {pl : Bool} {py : Pos} (hs : (storable sc y && !(x == y)) = true) (h : ∀ ρ', setV y d ρ = ρ' → body ⟨ρ', some (x, xs), pl⟩ (contS (fun σ'' => forP body orelse (bindT sc (.Name y py)) r σ'' Q) Q)) :
    forP body orelse (bindT sc (.Name y py)) (d :: r) ⟨ρ, some (x, xs), pl⟩ Q := by
  simp only [Bool.and_eq_true, Bool.not_eq_true'] at hs
  refine fpCons ?_ (h _ rfl)
  unfold bindT
  simp only [hs.1, if_true]
  unfold Ab.set
  simp only [hs.2]
  rfl
theorem fpTupO {body orelse : Ab → (Fl → Ab → Prop) → Prop} {a b : D} {r : List D} {y z x : Str} {xs : List D} {pl : Bool} {py pz pt : Pos} {k : Nat} (hs : (storable sc y && storable sc z && !(x == y) && !(x == z)) = true) (h : ∀ ρ', setV z b (setV y a ρ) = ρ' → body ⟨ρ', some (x, xs), pl⟩ (contS (fun σ'' => forP body orelse (bindT sc (.Tuple [.Name y py, .Name z pz] k pt)) r σ'' Q) Q)) :
    forP body orelse (bindT sc (.Tuple [.Name y py, .Name z pz] k pt)) (.tuple [a, b] :: r) ⟨ρ, some (x, xs), pl⟩ Q := by
  simp only [Bool.and_eq_true, Bool.not_eq_true'] at hs
  obtain ⟨⟨⟨h1, h2⟩, h3⟩, h4⟩ := hs
  refine fpCons ?_ (h _ rfl)
  unfold bindT
  simp only [h1, h2, Bool.and_self, if_true]
  unfold Ab.set
  simp only [h3, h4, Bool.false_eq_true, if_false]
theorem itIs {d : D} {items : List D} {K : List D → Prop} (hi : iterD d = some items) (h : K items) : (iterD d).elim False K := by rw [hi]; exact h
end

section
variable {Q : D → Prop}
theorem rRange1 {b : Int} (hs : Sm b) (h : Q (.range 0 b 1)) : biP (Str.ofString "range") [.int b] Q := BiP.range1 _ hs h
theorem rRange3 {a b c : Int} (hs : Sm a ∧ Sm b ∧ Sm c ∧ c ≠ 0) (h : Q (.range a b c)) : biP (Str.ofString "range") [.int a, .int b, .int c] Q := BiP.range3 _ _ _ hs h
theorem rLen {d : D} {n : Nat} (hl : lenD d = some n) (hn : n ≤ sizeLine) (h : Q (.int n)) : biP (Str.ofString "len") [d] Q := BiP.len _ _ hl hn h
theorem rListR {a b c : Int} {xs : List D} (hi : iterD (.range a b c) = some xs) (hl : xs.length ≤ sizeLine) (h : Q (.list xs)) : biP (Str.ofString "list") [.range a b c] Q := BiP.list _ _ _ _ hi hl h
theorem rBytes {xs : List D} {ns : List Int} (hl : xs.length ≤ sizeLine) (hi : intsOf? xs = some ns) (hb : ∀ n ∈ ns, 0 ≤ n ∧ n < 256) (h : Q (.bytes (byteArr ns))) : biP (Str.ofString "bytes") [.list xs] Q := BiP.bytes _ _ hl hi hb h
theorem mJoin {x : Str} {xs : List D} {ys : List Str} (hi : strsOf? xs = some ys) (hj : JoinOk x ys = true) (h : Q (.str (Txt.join x ys))) : methP (Str.ofString "join") (.str x) [.list xs] Q := MethP.join _ _ _ hi hj h
theorem mIndex {x y : Str} (hf : 0 ≤ Txt.find x y) (h : Q (.int (Txt.find x y))) : methP (Str.ofString "index") (.str x) [.str y] Q := MethP.index _ _ hf h
theorem slList {xs : List D} {lo hi : Option D} {lo' hi' : Option Int} (h1 : partD lo = some lo') (h2 : partD hi = some hi') (hl : xs.length ≤ sizeLine) (h : Q (.list (cutL lo' hi' xs))) : sliceP (.list xs) lo hi none Q := ⟨lo', hi', h1, h2, .list _ hl h⟩
theorem slStr {x : Str} {lo hi : Option D} {lo' hi' : Option Int} (h1 : partD lo = some lo') (h2 : partD hi = some hi') (hl : x.length ≤ sizeLine) (h : Q (.str ⟨(cutL lo' hi' x.cps.toList).toArray⟩)) : sliceP (.str x) lo hi none Q := ⟨lo', hi', h1, h2, .str _ hl h⟩
theorem slBytes {x : Array UInt8} {lo hi : Option D} {lo' hi' : Option Int} (h1 : partD lo = some lo') (h2 : partD hi = some hi') (hl : x.size ≤ sizeLine) (h : Q (.bytes (cutL lo' hi' x.toList).toArray)) : sliceP (.bytes x) lo hi none Q := ⟨lo', hi', h1, h2, .bytes _ hl h⟩
theorem slRev {xs : List D} (hl : xs.length ≤ sizeLine) (h : Q (.list xs.reverse)) : sliceP (.list xs) none none (some (.int (-1))) Q := ⟨none, none, rfl, rfl, .rev _ _ ⟨hl, rfl, rfl, rfl⟩ h⟩
end

section
variable {Q : Bool → Prop}
theorem cEqI {a b : Int} (h : Q (a == b)) : cmpP .Eq (.int a) (.int b) Q := CmpP.eqI _ _ h
theorem cEqS {a b : Str} (h : Q (a == b)) : cmpP .Eq (.str a) (.str b) Q := CmpP.eqS _ _ h
theorem cNeI {a b : Int} (h : Q (!(a == b))) : cmpP .NotEq (.int a) (.int b) Q := CmpP.neI _ _ h
theorem cLtI {a b : Int} (h : Q (decide (a < b))) : cmpP .Lt (.int a) (.int b) Q := CmpP.ltI _ _ h
theorem cGtI {a b : Int} (h : Q (decide (b < a))) : cmpP .Gt (.int a) (.int b) Q := CmpP.gtI _ _ h
theorem cLtS {a b : Str} (h : Q (decide (a.cps.toList < b.cps.toList))) : cmpP .Lt (.str a) (.str b) Q := CmpP.ltS _ _ h
theorem cGtS {a b : Str} (h : Q (decide (b.cps.toList < a.cps.toList))) : cmpP .Gt (.str a) (.str b) Q := CmpP.gtS _ _ h
theorem cEqL {a b : List D} (hs : sm 8 (.list a) (.list b) = true) (h : ∀ t : Bool, (t = true ↔ a = b) → Q t) : cmpP .Eq (.list a) (.list b) Q := CmpP.eqL _ _ hs (h _ (by simp))
theorem cEqT {a b : List D} (hs : sm 8 (.tuple a) (.tuple b) = true) (h : ∀ t : Bool, (t = true ↔ a = b) → Q t) : cmpP .Eq (.tuple a) (.tuple b) Q := CmpP.eqT _ _ hs (h _ (by simp))
theorem cNeL {a b : List D} (hs : sm 8 (.list a) (.list b) = true) (h : ∀ t : Bool, (t = true ↔ a ≠ b) → Q t) : cmpP .NotEq (.list a) (.list b) Q := CmpP.neL _ _ hs (h _ (by simp))
theorem cNotIn {x : D} {xs : List D} (hs : (xs.all fun y => sm 8 y x) = true) (h : ∀ t : Bool, (t = true ↔ x ∉ xs) → Q t) : cmpP .NotIn x (.list xs) Q := CmpP.notIn _ _ hs (h _ (by simp))
end

/-- comprehensions over a pure element -/
theorem setV_setV (x : Str) (d d' : D) (ρ : List (Str × D)) : setV x d (setV x d' ρ) = setV x d ρ := by
  unfold setV
  rw [List.filter_cons]
  simp [List.filter_filter]
section
variable {x : Str} {elt : Expr} {ev : List (Str × D) → Expr → (D → Prop) → Prop} {tv : List (Str × D) → Expr → (Bool → Prop) → Prop}
theorem comp1_map {Q : List (Str × D) → List D → Prop} (f : D → D) : ∀ (items : List D) (ρ : List (Str × D)) (acc : List D),
    (∀ d ∈ items, ∀ Q', Q' (f d) → ev (setV x d ρ) elt Q') → (∀ ρ', (ρ' = ρ ∨ ∃ d, ρ' = setV x d ρ) → Q ρ' (acc ++ items.map f)) → comp1 x [] elt ev tv items ρ acc Q
  | [], ρ, acc, _, h => by
    have := h ρ (.inl rfl)
    rw [List.map_nil, List.append_nil] at this
    exact this
  | d :: r, ρ, acc, he, h => by
    show ev (setV x d ρ) elt fun v => comp1 x [] elt ev tv r (setV x d ρ) (acc ++ [v]) Q
    refine he d (.head _) _ (comp1_map f r (setV x d ρ) (acc ++ [f d]) (fun d' hd' Q' hq => ?_) fun ρ' hρ => ?_)
    · rw [setV_setV]; exact he d' (.tail _ hd') Q' hq
    · have := h ρ' (.inr (by
        rcases hρ with rfl | ⟨d', rfl⟩
        · exact ⟨d, rfl⟩
        · exact ⟨d', setV_setV ..⟩))
      simpa using this
theorem comp1_filt {Q : List (Str × D) → List D → Prop} {c : Expr} (q : D → Bool) (f : D → D) : ∀ (items : List D) (ρ : List (Str × D)) (acc : List D),
    (∀ d ∈ items, ∀ Q', Q' (q d) → tv (setV x d ρ) c Q') → (∀ d ∈ items, q d = true → ∀ Q', Q' (f d) → ev (setV x d ρ) elt Q') → (∀ ρ', Q ρ' (acc ++ (items.filter q).map f)) → comp1 x [c] elt ev tv items ρ acc Q
  | [], ρ, acc, _, _, h => by
    have := h ρ
    rw [List.filter_nil, List.map_nil, List.append_nil] at this
    exact this
  | d :: r, ρ, acc, ht, he, h => by
    show tv (setV x d ρ) c fun b => bif b then ev (setV x d ρ) elt fun v => comp1 x [c] elt ev tv r (setV x d ρ) (acc ++ [v]) Q else comp1 x [c] elt ev tv r (setV x d ρ) acc Q
    refine ht d (.head _) _ ?_
    cases hq : q d with
    | true =>
      refine he d (.head _) hq _ (comp1_filt q f r (setV x d ρ) (acc ++ [f d]) (fun d' hd' Q' hq => ?_) (fun d' hd' hq' Q' hq => ?_) fun ρ' => ?_)
      · rw [setV_setV]; exact ht d' (.tail _ hd') Q' hq
      · rw [setV_setV]; exact he d' (.tail _ hd') hq' Q' hq
      · have := h ρ'
        rw [List.filter_cons, if_pos hq] at this
        simpa using this
    | false =>
      refine comp1_filt q f r (setV x d ρ) acc (fun d' hd' Q' hq => ?_) (fun d' hd' hq' Q' hq => ?_) fun ρ' => ?_
      · rw [setV_setV]; exact ht d' (.tail _ hd') Q' hq
      · rw [setV_setV]; exact he d' (.tail _ hd') hq' Q' hq
      · have := h ρ'
        rw [List.filter_cons, if_neg (by rw [hq]; simp)] at this
        exact this
end
end Mine
end
section
set_option tactic.hygienic false
open PySem PySem.W PyProof.Rows
namespace Mine
noncomputable abbrev theRow : OpenRow := PySem.Challenge.rw_op0060_01.row
noncomputable def oB : List Stmt := PySem.Challenge.pw_op0060_01.main.body
noncomputable def hd.view_39 : Program :=
  { PySem.Challenge.pw_op0060_01 with main := { PySem.Challenge.pw_op0060_01.main with body := ((oB.drop 1).take 23 ++ (oB.drop 25).take 3) ++ ((oB.drop 29).take 2 ++ oB.drop 32) } }
noncomputable def oA (i : Nat) : Stmt := (oB.drop i).headD default
noncomputable def oD (i : Nat) : Stmt := match oA i with
  | .ClassDef _ _ _ (s :: _) .. => s
  | _ => default
noncomputable def oAa (s : Stmt) : Arguments := match s with
  | .FunctionDef _ a _ _ _ _ _ _ _ _ => a
  | _ => default
noncomputable def oAb (s : Stmt) : List Stmt := match s with
  | .FunctionDef _ _ b _ _ _ _ _ _ _ => b
  | _ => []
noncomputable def oAs (s : Stmt) : Scope := match s with
  | .FunctionDef _ _ _ _ _ _ s _ _ _ => s
  | _ => default
noncomputable def oS (s : String) (t : Nat) : Value := .str (Str.ofString s) t
noncomputable def oT (l : List Value) : Obj := { cls := .type "tuple", data := .seq l.toArray }
noncomputable def oE (P : Params) (s : String) (t : Nat) (v : Value) : DictEntry := { hash := PyData.keyHash P (Str.ofString s), key := oS s t, val := v }
noncomputable def oC (x q : String) (t : Nat) (ln n : Int) (a b : Addr) (c d : Value) (e : Addr) (u : Nat) : Obj :=
  { cls := .type "code", data := .fields #[oS x t, oS q (t + 1), oS "/claim/cut.py" (t + 2), .int ln 0, .int n 0, .int 0 0, .int 0 0, .int 3 0, .ref a, .bool true, .int 181 0, .ref b, .none, c, d, .ref e, .int u 0, .int ln 0, oS "/claim/cut.py" (u + 1)] }
noncomputable def oF (x q : String) (s : Stmt) (m : String) (t : Nat) (c : Addr) : Obj :=
  { cls := .type "function", data := .func { name := Str.ofString x, qualname := Str.ofString q, params := oAa s, body := .stmts (oAb s), scope := oAs s, globals := 3, closure := [], defaults := .none, kwdefaults := .none, pyModule := oS m t, code := .ref c } }
noncomputable def hd.heap_39 (P : Params) : Frag := [
(2, { cls := .none, data := .dict #[] }),
  (3, { cls := .type "dict", data := .dict #[oE P "__name__" 165 (oS "law_op0060_01" 347),
    oE P "__doc__" 166 (.none),
    oE P "__package__" 167 (.none),
    oE P "__loader__" 168 (.builtin "__main__.__loader__#opaque"),
    oE P "__spec__" 169 (.none),
    oE P "__annotations__" 170 (.ref 6),
    oE P "__builtins__" 171 (.ref 4),
    oE P "__file__" 173 (oS "/claim/cut.py" 172),
    oE P "__cached__" 174 (.none),
    oE P "S_IMODE" 195 (.ref 21),
    oE P "S_IFMT" 202 (.ref 28),
    oE P "S_IFDIR" 204 (.int 16384 203),
    oE P "S_IFCHR" 206 (.int 8192 205),
    oE P "S_IFBLK" 208 (.int 24576 207),
    oE P "S_IFREG" 210 (.int 32768 209),
    oE P "S_IFIFO" 212 (.int 4096 211),
    oE P "S_IFLNK" 214 (.int 40960 213),
    oE P "S_IFSOCK" 216 (.int 49152 215),
    oE P "S_ISUID" 218 (.int 2048 217),
    oE P "S_ISGID" 220 (.int 1024 219),
    oE P "S_ISVTX" 222 (.int 512 221),
    oE P "S_IRUSR" 224 (.int 256 223),
    oE P "S_IWUSR" 226 (.int 128 225),
    oE P "S_IXUSR" 228 (.int 64 227),
    oE P "S_IRGRP" 230 (.int 32 229),
    oE P "S_IWGRP" 232 (.int 16 231),
    oE P "S_IXGRP" 234 (.int 8 233),
    oE P "S_IROTH" 236 (.int 4 235),
    oE P "S_IWOTH" 238 (.int 2 237),
    oE P "S_IXOTH" 240 (.int 1 239),
    oE P "_filemode_table" 266 (.ref 61),
    oE P "filemode" 278 (.ref 68),
    oE P "read_uint1" 288 (.ref 75),
    oE P "read_bytes1" 297 (.ref 82),
    oE P "_Example" 326 (.ref 99),
    oE P "unorderable_list_difference" 338 (.ref 110),
    oE P "three_way_cmp" 346 (.ref 117),
    oE P "_law_stream" 360 (.ref 124),
    oE P "_law_cells" 369 (.ref 131),
    oE P "_law_row" 381 (.ref 138),
    oE P "_law_row_due" 393 (.ref 145),
    oE P "_law_listed" 405 (.ref 152),
    oE P "_law_state" 415 (.ref 159),
    oE P "_law_gate" 421 (.ref 164),
    oE P "_law_read_all" 431 (.ref 171),
    oE P "_law_taped" 440 (.ref 178),
    oE P "_law_tape_is_told" 446 (.ref 183),
    oE P "_law_run" 452 (.ref 188),
    oE P "_law_marks" 458 (.ref 193),
    oE P "_law_marks_due" 464 (.ref 198),
    oE P "_law_rings" 475 (.ref 205),
    oE P "_law_halves_are_told" 481 (.ref 210),
    oE P "law" 487 (.ref 215)] 53 }),
  (15, oT []),
  (17, oT [oS "mode" 192]),
  (18, oT []),
  (20, oC "S_IMODE" "S_IMODE" 189 2 1 15 16 (.ref 17) (.ref 18) 19 193),
  (21, oF "S_IMODE" "S_IMODE" (oA 1) "cpy313.stat" 187 20),
  (22, oT []),
  (24, oT [oS "mode" 199]),
  (25, oT []),
  (27, oC "S_IFMT" "S_IFMT" 196 4 1 22 23 (.ref 24) (.ref 25) 26 200),
  (28, oF "S_IFMT" "S_IFMT" (oA 2) "cpy313.stat" 187 27),
  (29, oT [.int 40960 213, oS "l" 241]),
  (30, oT [.int 49152 215, oS "s" 242]),
  (31, oT [.int 32768 209, oS "-" 243]),
  (32, oT [.int 24576 207, oS "b" 244]),
  (33, oT [.int 16384 203, oS "d" 245]),
  (34, oT [.int 8192 205, oS "c" 246]),
  (35, oT [.int 4096 211, oS "p" 247]),
  (36, oT [.ref 29, .ref 30, .ref 31, .ref 32, .ref 33, .ref 34, .ref 35]),
  (37, oT [.int 256 223, oS "r" 248]),
  (38, oT [.ref 37]),
  (39, oT [.int 128 225, oS "w" 249]),
  (40, oT [.ref 39]),
  (41, oT [.int 2112 250, oS "s" 251]),
  (42, oT [.int 2048 217, oS "S" 252]),
  (43, oT [.int 64 227, oS "x" 253]),
  (44, oT [.ref 41, .ref 42, .ref 43]),
  (45, oT [.int 32 229, oS "r" 254]),
  (46, oT [.ref 45]),
  (47, oT [.int 16 231, oS "w" 255]),
  (48, oT [.ref 47]),
  (49, oT [.int 1032 256, oS "s" 257]),
  (50, oT [.int 1024 219, oS "S" 258]),
  (51, oT [.int 8 233, oS "x" 259]),
  (52, oT [.ref 49, .ref 50, .ref 51]),
  (53, oT [.int 4 235, oS "r" 260]),
  (54, oT [.ref 53]),
  (55, oT [.int 2 237, oS "w" 261]),
  (56, oT [.ref 55]),
  (57, oT [.int 513 262, oS "t" 263]),
  (58, oT [.int 512 221, oS "T" 264]),
  (59, oT [.int 1 239, oS "x" 265]),
  (60, oT [.ref 57, .ref 58, .ref 59]),
  (61, oT [.ref 36, .ref 38, .ref 40, .ref 44, .ref 46, .ref 48, .ref 52, .ref 54, .ref 56, .ref 60]),
  (62, oT []),
  (64, oT [oS "mode" 270, oS "perm" 271, oS "index" 272, oS "table" 273, oS "bit" 274, oS "char" 275]),
  (65, oT []),
  (67, oC "filemode" "filemode" 267 26 1 62 63 (.ref 64) (.ref 65) 66 276),
  (68, oF "filemode" "filemode" (oA 23) "cpy313.stat" 187 67),
  (69, oT []),
  (71, oT [oS "f" 284, oS "data" 285]),
  (72, oT []),
  (74, oC "read_uint1" "read_uint1" 281 44 1 69 70 (.ref 71) (.ref 72) 73 286),
  (75, oF "read_uint1" "read_uint1" (oA 25) "cpy313.pickletools" 279 74),
  (76, oT []),
  (78, oT [oS "f" 292, oS "n" 293, oS "data" 294]),
  (79, oT []),
  (81, oC "read_bytes1" "read_bytes1" 289 49 1 76 77 (.ref 78) (.ref 79) 80 295),
  (82, oF "read_bytes1" "read_bytes1" (oA 26) "cpy313.pickletools" 279 81),
  (90, oT []),
  (92, oT [oS "self" 313, oS "value" 314]),
  (93, oT []),
  (95, oC "__init__" "_Example.__init__" 310 58 2 90 91 (.ref 92) (.ref 93) 94 315),
  (96, oF "__init__" "_Example.__init__" (oD 27) "cpy313.pickletools" 279 95),
  (97, oT [oS "value" 318]),
  (98, { cls := .type "dict", data := .dict #[oE P "__module__" 305 (oS "cpy313.pickletools" 279),
    oE P "__firstlineno__" 309 (.int 56 308),
    oE P "__init__" 317 (.ref 96),
    oE P "__static_attributes__" 319 (.ref 97),
    oE P "__dict__" 321 (.ref 100),
    oE P "__weakref__" 323 (.ref 101),
    oE P "__doc__" 324 (.none)] 4 }),
  (99, { cls := .type "type", data := Data.cls { name := Str.ofString "_Example", bases := [.type "object"], mro := [.ref 99, .type "object"], ns := 98, qualname := Str.ofString "_Example" }, slots := #[none, none, some (.str (Str.ofString "_Example") 298), some (.str (Str.ofString "_Example") 306), some (.builtin "object.__new__"), some (.bool true)] }),
  (100, { cls := .type "getset_descriptor", data := .fields #[oS "__dict__" 320, .ref 99, .builtin "function.__dict__", .builtin "function.__dict__#set"] }),
  (101, { cls := .type "getset_descriptor", data := .fields #[oS "__weakref__" 322, .ref 99, .builtin "ExceptionGroup.__weakref__", .none] }),
  (104, oT []),
  (106, oT [oS "expected" 332, oS "actual" 333, oS "missing" 334, oS "item" 335]),
  (107, oT []),
  (109, oC "unorderable_list_difference" "unorderable_list_difference" 329 61 2 104 105 (.ref 106) (.ref 107) 108 336),
  (110, oF "unorderable_list_difference" "unorderable_list_difference" (oA 29) "cpy313.unittest.util" 327 109),
  (111, oT []),
  (113, oT [oS "x" 342, oS "y" 343]),
  (114, oT []),
  (116, oC "three_way_cmp" "three_way_cmp" 339 70 2 111 112 (.ref 113) (.ref 114) 115 344),
  (117, oF "three_way_cmp" "three_way_cmp" (oA 30) "cpy313.unittest.util" 327 116),
  (118, oT []),
  (120, oT [oS "octets" 352, oS "at" 353, oS "tape" 354, oS "_law_read" 355]),
  (121, oT [oS "octets" 356, oS "at" 357]),
  (123, oC "_law_stream" "_law_stream" 349 73 2 118 119 (.ref 120) (.ref 121) 122 358),
  (124, oF "_law_stream" "_law_stream" (oA 32) "law_op0060_01" 347 123),
  (125, oT []),
  (127, oT [oS "script" 364, oS "cells" 365, oS "place" 366]),
  (128, oT []),
  (130, oC "_law_cells" "_law_cells" 361 82 1 125 126 (.ref 127) (.ref 128) 129 367),
  (131, oF "_law_cells" "_law_cells" (oA 33) "law_op0060_01" 347 130),
  (132, oT []),
  (134, oT [oS "kind" 373, oS "rights" 374, oS "row" 375, oS "turn" 376, oS "digit" 377, oS "last" 378]),
  (135, oT []),
  (137, oC "_law_row" "_law_row" 370 87 2 132 133 (.ref 134) (.ref 135) 136 379),
  (138, oF "_law_row" "_law_row" (oA 34) "law_op0060_01" 347 137),
  (139, oT []),
  (141, oT [oS "mode" 385, oS "own" 386, oS "state" 387, oS "row" 388, oS "last" 389, oS "signs" 390]),
  (142, oT []),
  (144, oC "_law_row_due" "_law_row_due" 382 95 3 139 140 (.ref 141) (.ref 142) 143 391),
  (145, oF "_law_row_due" "_law_row_due" (oA 35) "law_op0060_01" 347 144),
  (146, oT []),
  (148, oT [oS "mode" 397, oS "own" 398, oS "state" 399, oS "rights" 400, oS "turn" 401, oS "place" 402]),
  (149, oT []),
  (151, oC "_law_listed" "_law_listed" 394 100 3 146 147 (.ref 148) (.ref 149) 150 403),
  (152, oF "_law_listed" "_law_listed" (oA 36) "law_op0060_01" 347 151),
  (153, oT []),
  (155, oT [oS "row" 409, oS "own" 410, oS "signs" 411, oS "last" 412]),
  (156, oT []),
  (158, oC "_law_state" "_law_state" 406 106 2 153 154 (.ref 155) (.ref 156) 157 413),
  (159, oF "_law_state" "_law_state" (oA 37) "law_op0060_01" 347 158),
  (160, oT []),
  (163, oC "_law_gate" "_law_gate" 416 110 1 160 161 (.none) (.none) 162 419),
  (164, oF "_law_gate" "_law_gate" (oA 38) "law_op0060_01" 347 163),
  (165, oT []),
  (167, oT [oS "octets" 425, oS "tape" 426, oS "items" 427, oS "err" 428]),
  (168, oT []),
  (170, oC "_law_read_all" "_law_read_all" 422 118 1 165 166 (.ref 167) (.ref 168) 169 429),
  (171, oF "_law_read_all" "_law_read_all" (oA 39) "law_op0060_01" 347 170),
  (172, oT []),
  (174, oT [oS "gates" 435, oS "octets" 436, oS "gate" 437]),
  (175, oT []),
  (177, oC "_law_taped" "_law_taped" 432 127 1 172 173 (.ref 174) (.ref 175) 176 438),
  (178, oF "_law_taped" "_law_taped" (oA 40) "law_op0060_01" 347 177),
  (179, oT []),
  (182, oC "_law_tape_is_told" "_law_tape_is_told" 441 132 2 179 180 (.none) (.none) 181 444),
  (183, oF "_law_tape_is_told" "_law_tape_is_told" (oA 41) "law_op0060_01" 347 182),
  (184, oT []),
  (187, oC "_law_run" "_law_run" 447 139 2 184 185 (.none) (.none) 186 450),
  (188, oF "_law_run" "_law_run" (oA 42) "law_op0060_01" 347 187),
  (189, oT []),
  (192, oC "_law_marks" "_law_marks" 453 145 1 189 190 (.none) (.none) 191 456),
  (193, oF "_law_marks" "_law_marks" (oA 43) "law_op0060_01" 347 192),
  (194, oT []),
  (197, oC "_law_marks_due" "_law_marks_due" 459 147 1 194 195 (.none) (.none) 196 462),
  (198, oF "_law_marks_due" "_law_marks_due" (oA 44) "law_op0060_01" 347 197),
  (199, oT []),
  (201, oT [oS "led" 468, oS "rings" 469, oS "seen" 470, oS "state" 471, oS "at" 472]),
  (202, oT []),
  (204, oC "_law_rings" "_law_rings" 465 150 1 199 200 (.ref 201) (.ref 202) 203 473),
  (205, oF "_law_rings" "_law_rings" (oA 45) "law_op0060_01" 347 204),
  (206, oT []),
  (209, oC "_law_halves_are_told" "_law_halves_are_told" 476 161 2 206 207 (.none) (.none) 208 479),
  (210, oF "_law_halves_are_told" "_law_halves_are_told" (oA 46) "law_op0060_01" 347 209),
  (211, oT []),
  (214, oC "law" "law" 482 168 1 211 212 (.none) (.none) 213 485),
  (215, oF "law" "law" (oA 47) "law_op0060_01" 347 214)]
end Mine
end
section
set_option tactic.hygienic false
open PySem PySem.W PyProof.Rows
namespace Mine
noncomputable def lvs : List (Str × WData) := [(Str.ofString "_filemode_table", WData.tuple
            [WData.tuple
                [WData.tuple [WData.int 40960, WData.str { cps := #[108] }],
                  WData.tuple [WData.int 49152, WData.str { cps := #[115] }],
                  WData.tuple [WData.int 32768, WData.str { cps := #[45] }],
                  WData.tuple [WData.int 24576, WData.str { cps := #[98] }],
                  WData.tuple [WData.int 16384, WData.str { cps := #[100] }],
                  WData.tuple [WData.int 8192, WData.str { cps := #[99] }],
                  WData.tuple [WData.int 4096, WData.str { cps := #[112] }]],
              WData.tuple [WData.tuple [WData.int 256, WData.str { cps := #[114] }]],
              WData.tuple [WData.tuple [WData.int 128, WData.str { cps := #[119] }]],
              WData.tuple
                [WData.tuple [WData.int 2112, WData.str { cps := #[115] }],
                  WData.tuple [WData.int 2048, WData.str { cps := #[83] }],
                  WData.tuple [WData.int 64, WData.str { cps := #[120] }]],
              WData.tuple [WData.tuple [WData.int 32, WData.str { cps := #[114] }]],
              WData.tuple [WData.tuple [WData.int 16, WData.str { cps := #[119] }]],
              WData.tuple
                [WData.tuple [WData.int 1032, WData.str { cps := #[115] }],
                  WData.tuple [WData.int 1024, WData.str { cps := #[83] }],
                  WData.tuple [WData.int 8, WData.str { cps := #[120] }]],
              WData.tuple [WData.tuple [WData.int 4, WData.str { cps := #[114] }]],
              WData.tuple [WData.tuple [WData.int 2, WData.str { cps := #[119] }]],
              WData.tuple
                [WData.tuple [WData.int 513, WData.str { cps := #[116] }],
                  WData.tuple [WData.int 512, WData.str { cps := #[84] }],
                  WData.tuple [WData.int 1, WData.str { cps := #[120] }]]])]
noncomputable def kBs : List Addr := [2, 3, 15, 17, 18, 20, 21, 22, 24, 25, 27, 28, 29, 30, 31, 32, 33, 34, 35, 36, 37, 38, 39, 40, 41, 42, 43, 44, 45, 46, 47, 48, 49, 50, 51, 52, 53, 54, 55, 56, 57, 58, 59, 60, 61, 62, 64, 65, 67, 68, 69, 71, 72, 74, 75, 76, 78, 79, 81, 82, 90, 92, 93, 95, 96, 97, 98, 99, 100, 101, 104, 106, 107, 109, 110, 111, 113, 114, 116, 117, 118, 120, 121, 123, 124, 125, 127, 128, 130, 131, 132, 134, 135, 137, 138, 139, 141, 142, 144, 145, 146, 148, 149, 151, 152, 153, 155, 156, 158, 159, 160, 163, 164, 165, 167, 168, 170, 171, 172, 174, 175, 177, 178, 179, 182, 183, 184, 187, 188, 189, 192, 193, 194, 197, 198, 199, 201, 202, 204, 205, 206, 209, 210, 211, 214, 215]
noncomputable def theHook : Hook := kmHook hd.heap_39 kBs (fun _ => by kernel_rfl) [119]
set_option maxHeartbeats 0 in
theorem theLeft : LeftO theRow.prog hd.view_39 [Str.ofString "_filemode_table"] (fun s => xlAt hd.view_39 lvs s && recOk (RowW.records theRow.toRowW) s) (Hook.obs theHook) (Hook.val theHook) 2690 := fun w => by
  unfold openEnds fencedOpening topFrom openGood xlAt Flt.mathXt staticsOk namesBound laidKept
  rw [Fast.te14364793385576792824, Fast.te10274390034422433532, Fast.te14289696077712309145, Fast.te14082659384304107361, Fast.te4187177175401517315, Fast.te1435165496053646825,
    Fast.te3247288618530077131, Fast.te821141287760084731, Fast.te964301259703733418, Fast.te8920871248978507458, Fast.te15056007747304108558, Fast.te4857012375875476094, Fast.te1584917186373303978, Fast.te3471404346716756564, Fast.te14846217769314788766, Fast.te7966671052430208091, Fast.te12749700546528644094, Fast.te18344453789297297638]
  kernel_rfl!
end Mine
end
section
set_option tactic.hygienic false
open PySem PySem.W PyProof.Rows
namespace Mine
set_option maxHeartbeats 0 in
theorem theSaid : PySem.Challenge.rw_op0060_01.wellSaid = true := by
  rw [Fast.te9446332074065402090]
  kernel_rfl!
end Mine
end
section
set_option tactic.hygienic false
open PySem PySem.W PySem.Calls PyProof.Rows
namespace Mine

noncomputable def litOf : Expr → Option Int
  | .Constant (.int c) _ _ => some c
  | _ => none
noncomputable def mulS (l r : Expr) (a b : Int) : Option D := match litOf l with
  | some c => bif decide (-(2 ^ 63) < c) && decide (c < 2 ^ 63) && decide (c = a) then some (.int (a * b)) else none
  | none => match litOf r with
    | some c => bif decide (-(2 ^ 63) < c) && decide (c < 2 ^ 63) && decide (c = b) then some (.int (a * b)) else none
    | none => none
noncomputable def binI (l : Expr) (op : Operator) (r : Expr) (a b : Int) : Option D := match op with
  | .Add => some (.int (a + b))
  | .Sub => some (.int (a - b))
  | .Mult => mulS l r a b
  | .FloorDiv => bif decide (0 < b) && decide (b < 2 ^ 63) then some (.int (Int.fdiv a b)) else none
  | .Mod => bif decide (b ≠ 0) then some (.int (Int.fmod a b)) else none
  | .BitAnd => some (.int (Builtin.bitAnd a b))
  | .BitXor => some (.int (Builtin.bitXor a b))
  | _ => none
noncomputable def binB (op : Operator) (a b : Bool) : Option D := match op with
  | .Sub => some (.int (b2n a - b2n b))
  | _ => none
noncomputable def binS (l : Expr) (op : Operator) (r : Expr) (x y : D) : Option D := match x with
  | .int a => match y with
    | .int b => binI l op r a b
    | _ => none
  | .bool a => match y with
    | .bool b => binB op a b
    | _ => none
  | _ => none

noncomputable def cmpI' (op : CmpOp) (a b : Int) : Option Bool := match op with
  | .Eq => some (a == b)
  | .NotEq => some (!(a == b))
  | .Lt => some (decide (a < b))
  | .Gt => some (decide (b < a))
  | _ => none
noncomputable def cmpT (op : CmpOp) (x y : Str) : Option Bool := match op with
  | .Eq => some (x == y)
  | .Lt => some (decide (x.cps.toList < y.cps.toList))
  | .Gt => some (decide (y.cps.toList < x.cps.toList))
  | _ => none
noncomputable def cmpS (op : CmpOp) (x y : D) : Option Bool := match x with
  | .int a => match y with
    | .int b => cmpI' op a b
    | _ => none
  | .str a => match y with
    | .str b => cmpT op a b
    | _ => none
  | _ => none

/-- an item at a written place -/
noncomputable def pickS (xs : List D) : Int → Option D
  | .ofNat k => bif Nat.blt k 4096 then xs[k]? else none
  | .negSucc k => bif Nat.blt k xs.length && Nat.blt k 4096 then xs[xs.length - 1 - k]? else none
noncomputable def getS (x y : D) : Option D := match y with
  | .int i => match x with
    | .list xs => pickS xs i
    | .tuple xs => pickS xs i
    | _ => none
  | _ => none

noncomputable def simpEs (f : Expr → Option D) : List Expr → Option (List D)
  | [] => some []
  | e :: r => bif okArg e then (f e).bind fun d => (simpEs f r).bind fun ds => some (d :: ds) else none

noncomputable def constS (c : Const) : Option D := match c with
  | .int i => some (.int i)
  | .str x => some (.str x)
  | .bool b => some (.bool b)
  | _ => none
noncomputable def negS (e : Expr) : Option D := (litOf e).bind fun i => some (.int (-i))
noncomputable def cmp1 (f : Expr → Option D) (l : Expr) : List CmpOp → List Expr → Option Bool
  | [op], [r] => bif behindInMarks op r then none else (f l).bind fun a => (f r).bind fun b => cmpS op a b
  | _, _ => none
noncomputable def testS (f : Expr → Option D) (t : Expr) : Option Bool := match t with
  | .Compare l ops rs _ => cmp1 f l ops rs
  | _ => none
noncomputable def simpE (ρ : List (Str × D)) : Nat → Expr → Option D
  | 0, _ => none
  | n + 1, e => match e with
    | .Constant c _ _ => constS c
    | .Name x _ => ρ.lookup x
    | .UnaryOp .USub x _ => negS x
    | .BinOp l op r _ => (simpE ρ n l).bind fun a => (simpE ρ n r).bind fun b => binS l op r a b
    | .Compare l ops rs _ => (cmp1 (simpE ρ n) l ops rs).bind fun t => some (.bool t)
    | .Tuple es _ _ => (simpEs (simpE ρ n) es).bind fun ds => bif Nat.ble ds.length sizeLine then some (.tuple ds) else none
    | .List es _ => (simpEs (simpE ρ n) es).bind fun ds => bif Nat.ble ds.length sizeLine then some (.list ds) else none
    | .Subscript v i _ => bif notSl i then (simpE ρ n v).bind fun a => (simpE ρ n i).bind fun b => getS a b else none
    | .IfExp t b o _ => (constD b).bind fun x => (constD o).bind fun y => (testS (simpE ρ n) t).bind fun c => some (mergeD c x y)
    | _ => none

section
variable {T : Tab} {sc : Scope} {ρ : List (Str × D)}
theorem bind_some {α β : Type} {x : Option α} {f : α → Option β} {b : β} (h : x.bind f = some b) : ∃ a, x = some a ∧ f a = some b := by
  cases x with
  | none => cases h
  | some a => exact ⟨a, rfl, h⟩
theorem bif_some {α : Type} {c : Bool} {x : Option α} {b : α} (h : (bif c then x else none) = some b) : c = true ∧ x = some b := by
  cases c with
  | true => exact ⟨rfl, h⟩
  | false => cases h
set_option tactic.hygienic true in
theorem litOf_eq {e : Expr} {c : Int} (h : litOf e = some c) : ∃ k p, e = .Constant (.int c) k p := by
  cases e <;> first | exact (none_ne h).elim | skip
  rename_i v k p
  cases v <;> first | exact (none_ne h).elim | skip
  cases h
  exact ⟨k, p, rfl⟩
theorem mulS_ok {l r : Expr} {a b : Int} {d : D} (h : mulS l r a b = some d) : (Sm a ∨ Sm b) ∧ d = .int (a * b) := by
  unfold mulS at h
  cases hl : litOf l with
  | some c =>
    rw [hl] at h
    obtain ⟨hc, h⟩ := bif_some h
    simp only [Bool.and_eq_true, decide_eq_true_eq] at hc
    obtain ⟨⟨h1, h2⟩, rfl⟩ := hc
    exact ⟨.inl ⟨h1, h2⟩, (Option.some.inj h).symm⟩
  | none =>
    rw [hl] at h
    cases hr : litOf r with
    | some c =>
      rw [hr] at h
      obtain ⟨hc, h⟩ := bif_some h
      simp only [Bool.and_eq_true, decide_eq_true_eq] at hc
      obtain ⟨⟨h1, h2⟩, rfl⟩ := hc
      exact ⟨.inr ⟨h1, h2⟩, (Option.some.inj h).symm⟩
    | none => rw [hr] at h; exact (none_ne h).elim
theorem binI_ok {l r : Expr} {op : Operator} {a b : Int} {d : D} (h : binI l op r a b = some d) {Q : D → Prop} (q : Q d) : binP T op (.int a) (.int b) Q := by
  cases op <;> first | exact (none_ne h).elim | skip
  · exact bAdd ((Option.some.inj h).symm ▸ q)
  · exact bSub ((Option.some.inj h).symm ▸ q)
  · obtain ⟨h1, rfl⟩ := mulS_ok (l := l) (r := r) h
    exact bMul h1 q
  · obtain ⟨hc, h⟩ := bif_some h
    exact bMod (of_decide_eq_true hc) ((Option.some.inj h).symm ▸ q)
  · exact bXor ((Option.some.inj h).symm ▸ q)
  · exact bAnd ((Option.some.inj h).symm ▸ q)
  · obtain ⟨hc, h⟩ := bif_some h
    simp only [Bool.and_eq_true, decide_eq_true_eq] at hc
    exact bDiv hc ((Option.some.inj h).symm ▸ q)
theorem binS_ok {l r : Expr} {op : Operator} {a b d : D} (h : binS l op r a b = some d) {Q : D → Prop} (q : Q d) : binP T op a b Q := by
  cases a <;> first | exact (none_ne h).elim | skip
  · cases b <;> first | exact (none_ne h).elim | skip
    cases op <;> first | exact (none_ne h).elim | skip
    exact bSubB ((Option.some.inj h).symm ▸ q)
  · cases b <;> first | exact (none_ne h).elim | skip
    exact binI_ok (l := l) (r := r) h q
theorem cmpS_ok {op : CmpOp} {a b : D} {t : Bool} (h : cmpS op a b = some t) {Q : Bool → Prop} (q : Q t) : cmpP op a b Q := by
  cases a <;> first | exact (none_ne h).elim | skip
  · cases b <;> first | exact (none_ne h).elim | skip
    cases op <;> first | exact (none_ne h).elim | skip
    · exact cEqI ((Option.some.inj h).symm ▸ q)
    · exact cNeI ((Option.some.inj h).symm ▸ q)
    · exact cLtI ((Option.some.inj h).symm ▸ q)
    · exact cGtI ((Option.some.inj h).symm ▸ q)
  · cases b <;> first | exact (none_ne h).elim | skip
    cases op <;> first | exact (none_ne h).elim | skip
    · exact cEqS ((Option.some.inj h).symm ▸ q)
    · exact cLtS ((Option.some.inj h).symm ▸ q)
    · exact cGtS ((Option.some.inj h).symm ▸ q)
theorem pickS_ok {xs : List D} {i : Int} {d : D} (h : pickS xs i = some d) : (-(2 ^ 63) ≤ i ∧ i < 2 ^ 63) ∧ ∃ j, seqIndex? i xs.length = some j ∧ xs[j]? = some d := by
  cases i with
  | ofNat k =>
    obtain ⟨hc, h⟩ := bif_some h
    have hc : k < 4096 := Nat.le_of_ble_eq_true hc
    have hl : k < xs.length := by
      rcases Nat.lt_or_ge k xs.length with q | q
      · exact q
      · rw [List.getElem?_eq_none q] at h; cases h
    refine ⟨⟨by show _ ≤ (k : Int); (first | lia | omega), by show (k : Int) < _; (first | lia | omega)⟩, k, ?_, h⟩
    show seqIndex? (k : Int) _ = _
    unfold seqIndex?
    dsimp only
    have hn : ¬ ((k : Int) < 0) := by (first | lia | omega)
    rw [if_neg hn, if_pos (by simp; (first | lia | omega))]
    simp
  | negSucc k =>
    obtain ⟨hc, h⟩ := bif_some h
    rw [Bool.and_eq_true] at hc
    have h1 : k < xs.length := Nat.le_of_ble_eq_true hc.1
    have h2 : k < 4096 := Nat.le_of_ble_eq_true hc.2
    refine ⟨⟨by rw [Int.negSucc_eq]; (first | lia | omega), by rw [Int.negSucc_eq]; (first | lia | omega)⟩, xs.length - 1 - k, ?_, h⟩
    rw [Int.negSucc_eq]
    unfold seqIndex?
    dsimp only
    have hn : (-((k : Int) + 1) < 0) := by (first | lia | omega)
    rw [if_pos hn, if_pos (by simp; (first | lia | omega))]
    exact congrArg some (by (first | lia | omega))
theorem getS_ok {a b d : D} (h : getS a b = some d) {Q : D → Prop} (q : Q d) : getP a b Q := by
  cases b <;> first | exact (none_ne h).elim | skip
  cases a <;> first | exact (none_ne h).elim | skip
  · obtain ⟨hc, j, hj, hd⟩ := pickS_ok h
    exact gList hc hj hd q
  · obtain ⟨hc, j, hj, hd⟩ := pickS_ok h
    exact gTuple hc hj hd q
theorem simpEs_ok {f : Expr → Option D} {ev : Expr → (D → Prop) → Prop} (hf : ∀ e d, f e = some d → ∀ Q : D → Prop, Q d → ev e Q) : ∀ (es : List Expr) (ds : List D), simpEs f es = some ds → ∀ Q : List D → Prop, Q ds → wpEs ev es Q
  | [], ds, h, Q, q => by cases h; exact q
  | e :: r, ds, h, Q, q => by
    obtain ⟨ha, h⟩ := bif_some h
    obtain ⟨d, hd, h⟩ := bind_some h
    obtain ⟨ds', hds, h⟩ := bind_some h
    cases h
    exact ⟨ha, hf e d hd _ (simpEs_ok hf r ds' hds _ q)⟩
theorem cmp1_ok {f : Expr → Option D} {l : Expr} {ops : List CmpOp} {rs : List Expr} {t : Bool} (h : cmp1 f l ops rs = some t) : ∃ (l' : Expr) (op : CmpOp) (r : Expr), ops = [op] ∧ rs = [r] ∧ behindInMarks op r = false ∧ ∃ a, f l = some a ∧ ∃ b, f r = some b ∧ cmpS op a b = some t := by
  cases ops with
  | nil => exact (none_ne h).elim
  | cons op ops =>
    cases ops with
    | cons => exact (none_ne h).elim
    | nil =>
      cases rs with
      | nil => exact (none_ne h).elim
      | cons r rs =>
        cases rs with
        | cons => exact (none_ne h).elim
        | nil =>
          change (bif behindInMarks op r then none else (f l).bind fun a => (f r).bind fun b => cmpS op a b) = some t at h
          cases hb : behindInMarks op r with
          | true => rw [hb] at h; exact (none_ne h).elim
          | false =>
            rw [hb] at h
            obtain ⟨a, ha, h⟩ := bind_some h
            obtain ⟨b, hb', h⟩ := bind_some h
            exact ⟨l, op, r, rfl, rfl, hb, a, ha, b, hb', h⟩
set_option tactic.hygienic true in
theorem simpE_ok : ∀ (n : Nat) (e : Expr) (d : D), simpE ρ n e = some d → ∀ Q : D → Prop, Q d → wpE T n sc ρ e Q := by
  intro n
  induction n with
  | zero => intro e d h; cases h
  | succ n ih =>
    intro e d h Q q
    cases e <;> first | exact (none_ne h).elim | skip
    · rename_i l op r p
      obtain ⟨a, ha, h⟩ := bind_some h
      obtain ⟨b, hb, h⟩ := bind_some h
      exact eBin (ih _ _ ha _ (ih _ _ hb _ (binS_ok h q)))
    · rename_i op x p
      cases op <;> first | exact (none_ne h).elim | skip
      obtain ⟨i, hi, h⟩ := bind_some h
      obtain ⟨k, p', rfl⟩ := litOf_eq hi
      exact eNeg ((Option.some.inj h).symm ▸ q)
    · rename_i t b o p
      obtain ⟨x, hx, h1⟩ := bind_some h
      obtain ⟨y, hy, h2⟩ := bind_some h1
      obtain ⟨c, hc, h3⟩ := bind_some h2
      clear h h1 h2
      cases t <;> first | exact (none_ne hc).elim | skip
      obtain ⟨l, op, r, rfl, rfl, hb, a, ha, b', hb', ht⟩ := cmp1_ok hc
      cases n with
      | zero => exact (none_ne ha).elim
      | succ n => exact eIf hx hy (tCmp hb (ih _ _ ha _ (ih _ _ hb' _ (cmpS_ok ht ((Option.some.inj h3).symm ▸ q)))))
    · obtain ⟨c, hc, h3⟩ := bind_some h
      clear h
      obtain ⟨l, op, r, rfl, rfl, hb, a, ha, b', hb', ht⟩ := cmp1_ok hc
      exact eCmp hb (ih _ _ ha _ (ih _ _ hb' _ (cmpS_ok ht ((Option.some.inj h3).symm ▸ q))))
    · rename_i c k p
      cases c <;> first | exact (none_ne h).elim | skip
      · exact eBool ((Option.some.inj h).symm ▸ q)
      · exact eInt ((Option.some.inj h).symm ▸ q)
      · exact eStr ((Option.some.inj h).symm ▸ q)
    · obtain ⟨hc, h⟩ := bif_some h
      obtain ⟨a, ha, h⟩ := bind_some h
      obtain ⟨b, hb, h⟩ := bind_some h
      exact eItem hc (ih _ _ ha _ (ih _ _ hb _ (getS_ok h q)))
    · exact eName h q
    · obtain ⟨ds, hds, h⟩ := bind_some h
      obtain ⟨hc, h⟩ := bif_some h
      exact eList (simpEs_ok ih _ _ hds _ ⟨Nat.le_of_ble_eq_true hc, (Option.some.inj h).symm ▸ q⟩)
    · obtain ⟨ds, hds, h⟩ := bind_some h
      obtain ⟨hc, h⟩ := bif_some h
      exact eTuple (simpEs_ok ih _ _ hds _ ⟨Nat.le_of_ble_eq_true hc, (Option.some.inj h).symm ▸ q⟩)
theorem eSimp {n : Nat} {e : Expr} {d : D} {Q : D → Prop} (h : simpE ρ n e = some d) (q : Q d) : wpE T n sc ρ e Q := simpE_ok n e d h Q q
end
end Mine
end
namespace Mine
section
open PySem PySem.W PySem.Calls PyProof.Rows
section
set_option tactic.hygienic false
noncomputable def fdOf (a : Addr) (P : Params) : FuncData := match (hd.heap_39 P).lookup a with
  | some ⟨_, _, .func fd, _⟩ => fd
  | _ => default
noncomputable def bodyOf (a : Addr) (P : Params) : List Stmt := match (fdOf a P).body with
  | .stmts b => b
  | _ => []
/-- the body of a def answers its contract -/
noncomputable def Body (T : Tab) (n : Nat) (a : Addr) (P : Params) (names : List Str) (S : Spec) : Prop :=
  ∀ ds Q, S ds Q → ds.length = names.length ∧ wpSs T n (fdOf a P).scope (bodyOf a P) ⟨names.zip ds, none, true⟩ fun fl _ => match fl with | .ret d => Q d | _ => False
theorem condTr {c : Bool} {A B : Prop} (e : c = true) (h : A) : (bif c then A else B) := by rw [e]; exact h
theorem condFr {c : Bool} {A B : Prop} (e : c = false) (h : B) : (bif c then A else B) := by rw [e]; exact h
theorem condB {c : Bool} {A B : Prop} (h1 : c = true → A) (h2 : c = false → B) : (bif c then A else B) := by
  cases c with
  | true => exact h1 rfl
  | false => exact h2 rfl
theorem range3 : iterD (.range 0 3 1) = some [.int 0, .int 1, .int 2] := by kernel_rfl!
theorem range4 : iterD (.range 0 4 1) = some [.int 0, .int 1, .int 2, .int 3] := by kernel_rfl!
theorem ltB {a b : Nat} (h : Nat.blt a b = true) : a < b := Nat.le_of_ble_eq_true h
theorem eraIs {y : Str} {ρ ρ' : List (Str × D)} {K : List (Str × D) → Prop} (e : eraseV y ρ = ρ') (h : K ρ') : ∀ ρ', eraseV y ρ = ρ' → K ρ' := fun _ q => (q.symm.trans e) ▸ h
theorem sListN {T : Tab} {n : Nat} {sc : Scope} {Q : Fl → Ab → Prop} {p : Pos} {y : Str} {py lp : Pos} {es : List Expr} {ρ : List (Str × D)} (hs : storable sc y = true)
    (h : wpEs (wpE T n sc ρ) es fun ds => ds.length ≤ sizeLine ∧ (bif ds.all imm then (∀ ρ', eraseV y ρ = ρ' → Q .next ⟨ρ', some (y, ds), true⟩) else ∀ ρ', setV y (.list ds) ρ = ρ' → Q .next ⟨ρ', none, true⟩)) :
    wpS T (n + 1) sc (.Assign [.Name y py] (.List es lp) p) ⟨ρ, none, true⟩ Q := by
  refine sList hs (cast ?_ h)
  refine congrArg (wpEs (wpE T n sc ρ) es) ?_
  funext ds
  cases ds.all imm with
  | true => exact propext ⟨fun x => ⟨x.1, x.2 _ rfl⟩, fun x => ⟨x.1, fun _ e => e ▸ x.2⟩⟩
  | false => exact propext ⟨fun x => ⟨x.1, x.2 _ rfl⟩, fun x => ⟨x.1, fun _ e => e ▸ x.2⟩⟩
theorem andImm {d : D} {A : Prop} (h : imm d = true) (k : A) : imm d = true ∧ A := ⟨h, k⟩
theorem condAll {ds : List D} {A B : Prop} (e : ds.all imm = true) (h : A) : (bif ds.all imm then A else B) := by rw [e]; exact h
theorem atE {T : Tab} {n : Nat} {sc : Scope} {ρ : List (Str × D)} {e : Expr} {Q : D → Prop} (h : wpE T n sc ρ e Q) : wpE T n sc ρ e Q := h
theorem atS {T : Tab} {n : Nat} {sc : Scope} {σ : Ab} {e : Stmt} {Q : Fl → Ab → Prop} (h : wpS T n sc e σ Q) : wpS T n sc e σ Q := h
theorem atB {T : Tab} {op : Operator} {a b : D} {Q : D → Prop} (h : binP T op a b Q) : binP T op a b Q := h
theorem sm_lit {a : Int} (h : (decide (-(2 ^ 63) < a) && decide (a < 2 ^ 63)) = true) : Sm a := by
  simp only [Bool.and_eq_true, decide_eq_true_eq] at h
  exact h
noncomputable def litI : Int → Bool
  | .ofNat k => Nat.blt k 100000
  | .negSucc k => Nat.blt k 100000
theorem sm_lit2 {a : Int} (h : litI a = true) : Sm a := by
  cases a with
  | ofNat k =>
    have : k < 100000 := Nat.le_of_ble_eq_true h
    exact ⟨by show _ < (k : Int); (first | lia | omega), by show (k : Int) < _; (first | lia | omega)⟩
  | negSucc k =>
    have : k < 100000 := Nat.le_of_ble_eq_true h
    rw [Int.negSucc_eq]
    exact ⟨by (first | lia | omega), by (first | lia | omega)⟩
theorem rRange1f {Q : D → Prop} {f : Str} {b : Int} (hf : (f == Str.ofString "range") = true) (hs : Sm b) (h : Q (.range 0 b 1)) : biP f [.int b] Q := by
  rw [eq_of_beq hf]; exact rRange1 hs h
/-- the variables but y: where it stands, if anywhere -/
noncomputable def hitAt (y : Str) : Nat → List (Str × D) → Bool
  | _, [] => false
  | 0, a :: r => (a.1 == y) && r.all fun p => !(p.1 == y)
  | i + 1, a :: r => (!(a.1 == y)) && hitAt y i r
noncomputable def delAt : Nat → List (Str × D) → List (Str × D)
  | _, [] => []
  | 0, _ :: r => r
  | i + 1, a :: r => a :: delAt i r
theorem filt_none {y : Str} {ρ : List (Str × D)} (h : (ρ.all fun p => !(p.1 == y)) = true) : (ρ.filter fun p => !(p.1 == y)) = ρ := List.filter_eq_self.mpr (List.all_eq_true.mp h)
theorem filt_at {y : Str} {i : Nat} {ρ : List (Str × D)} (h : hitAt y i ρ = true) : (ρ.filter fun p => !(p.1 == y)) = delAt i ρ := by
  induction ρ generalizing i with
  | nil => cases i <;> rfl
  | cons a r ih =>
    cases i with
    | zero =>
      obtain ⟨h1, h2⟩ := Bool.and_eq_true_iff.mp h
      rw [List.filter_cons, h1, filt_none h2]; rfl
    | succ i =>
      obtain ⟨h1, h2⟩ := Bool.and_eq_true_iff.mp h
      rw [List.filter_cons, h1, ih h2]; rfl
section
variable {y : Str} {a b c e f g i j k l : Str × D} {v : D} {r : List (Str × D)} {K : List (Str × D) → Prop}
theorem vGo (h : ∀ ρ', setV y v r = ρ' → K ρ') : ∀ ρ', setV y v r = ρ' → K ρ' := h
theorem uGo (h : ∀ ρ', eraseV y r = ρ' → K ρ') : ∀ ρ', eraseV y r = ρ' → K ρ' := h
theorem setN (h : (r.all fun p => !(p.1 == y)) = true) (q : K ((y, v) :: r)) : ∀ ρ', setV y v r = ρ' → K ρ' := fun _ e => by rw [← e, setV, filt_none h]; exact q
theorem setAt (n : Nat) (h : hitAt y n r = true) (q : K ((y, v) :: delAt n r)) : ∀ ρ', setV y v r = ρ' → K ρ' := fun _ e => by rw [← e, setV, filt_at h]; exact q
theorem eraN (h : (r.all fun p => !(p.1 == y)) = true) (q : K r) : ∀ ρ', eraseV y r = ρ' → K ρ' := fun _ e => by rw [← e, eraseV, filt_none h]; exact q
theorem eraAt (n : Nat) (h : hitAt y n r = true) (q : K (delAt n r)) : ∀ ρ', eraseV y r = ρ' → K ρ' := fun _ e => by rw [← e, eraseV, filt_at h]; exact q
theorem setA0 (hh : hitAt y 0 (a :: r) = true) (q : K ((y, v) :: r)) : ∀ ρ', setV y v (a :: r) = ρ' → K ρ' := setAt 0 hh q
theorem eraA0 (hh : hitAt y 0 (a :: r) = true) (q : K (r)) : ∀ ρ', eraseV y (a :: r) = ρ' → K ρ' := eraAt 0 hh q
theorem setA1 (hh : hitAt y 1 (a :: b :: r) = true) (q : K ((y, v) :: a :: r)) : ∀ ρ', setV y v (a :: b :: r) = ρ' → K ρ' := setAt 1 hh q
theorem eraA1 (hh : hitAt y 1 (a :: b :: r) = true) (q : K (a :: r)) : ∀ ρ', eraseV y (a :: b :: r) = ρ' → K ρ' := eraAt 1 hh q
theorem setA2 (hh : hitAt y 2 (a :: b :: c :: r) = true) (q : K ((y, v) :: a :: b :: r)) : ∀ ρ', setV y v (a :: b :: c :: r) = ρ' → K ρ' := setAt 2 hh q
theorem eraA2 (hh : hitAt y 2 (a :: b :: c :: r) = true) (q : K (a :: b :: r)) : ∀ ρ', eraseV y (a :: b :: c :: r) = ρ' → K ρ' := eraAt 2 hh q
theorem setA3 (hh : hitAt y 3 (a :: b :: c :: e :: r) = true) (q : K ((y, v) :: a :: b :: c :: r)) : ∀ ρ', setV y v (a :: b :: c :: e :: r) = ρ' → K ρ' := setAt 3 hh q
theorem eraA3 (hh : hitAt y 3 (a :: b :: c :: e :: r) = true) (q : K (a :: b :: c :: r)) : ∀ ρ', eraseV y (a :: b :: c :: e :: r) = ρ' → K ρ' := eraAt 3 hh q
theorem setA4 (hh : hitAt y 4 (a :: b :: c :: e :: f :: r) = true) (q : K ((y, v) :: a :: b :: c :: e :: r)) : ∀ ρ', setV y v (a :: b :: c :: e :: f :: r) = ρ' → K ρ' := setAt 4 hh q
theorem eraA4 (hh : hitAt y 4 (a :: b :: c :: e :: f :: r) = true) (q : K (a :: b :: c :: e :: r)) : ∀ ρ', eraseV y (a :: b :: c :: e :: f :: r) = ρ' → K ρ' := eraAt 4 hh q
theorem setA5 (hh : hitAt y 5 (a :: b :: c :: e :: f :: g :: r) = true) (q : K ((y, v) :: a :: b :: c :: e :: f :: r)) : ∀ ρ', setV y v (a :: b :: c :: e :: f :: g :: r) = ρ' → K ρ' := setAt 5 hh q
theorem eraA5 (hh : hitAt y 5 (a :: b :: c :: e :: f :: g :: r) = true) (q : K (a :: b :: c :: e :: f :: r)) : ∀ ρ', eraseV y (a :: b :: c :: e :: f :: g :: r) = ρ' → K ρ' := eraAt 5 hh q
theorem setA6 (hh : hitAt y 6 (a :: b :: c :: e :: f :: g :: h :: r) = true) (q : K ((y, v) :: a :: b :: c :: e :: f :: g :: r)) : ∀ ρ', setV y v (a :: b :: c :: e :: f :: g :: h :: r) = ρ' → K ρ' := setAt 6 hh q
theorem eraA6 (hh : hitAt y 6 (a :: b :: c :: e :: f :: g :: h :: r) = true) (q : K (a :: b :: c :: e :: f :: g :: r)) : ∀ ρ', eraseV y (a :: b :: c :: e :: f :: g :: h :: r) = ρ' → K ρ' := eraAt 6 hh q
theorem setA7 (hh : hitAt y 7 (a :: b :: c :: e :: f :: g :: h :: i :: r) = true) (q : K ((y, v) :: a :: b :: c :: e :: f :: g :: h :: r)) : ∀ ρ', setV y v (a :: b :: c :: e :: f :: g :: h :: i :: r) = ρ' → K ρ' := setAt 7 hh q
theorem eraA7 (hh : hitAt y 7 (a :: b :: c :: e :: f :: g :: h :: i :: r) = true) (q : K (a :: b :: c :: e :: f :: g :: h :: r)) : ∀ ρ', eraseV y (a :: b :: c :: e :: f :: g :: h :: i :: r) = ρ' → K ρ' := eraAt 7 hh q
theorem setA8 (hh : hitAt y 8 (a :: b :: c :: e :: f :: g :: h :: i :: j :: r) = true) (q : K ((y, v) :: a :: b :: c :: e :: f :: g :: h :: i :: r)) : ∀ ρ', setV y v (a :: b :: c :: e :: f :: g :: h :: i :: j :: r) = ρ' → K ρ' := setAt 8 hh q
theorem eraA8 (hh : hitAt y 8 (a :: b :: c :: e :: f :: g :: h :: i :: j :: r) = true) (q : K (a :: b :: c :: e :: f :: g :: h :: i :: r)) : ∀ ρ', eraseV y (a :: b :: c :: e :: f :: g :: h :: i :: j :: r) = ρ' → K ρ' := eraAt 8 hh q
theorem setA9 (hh : hitAt y 9 (a :: b :: c :: e :: f :: g :: h :: i :: j :: k :: r) = true) (q : K ((y, v) :: a :: b :: c :: e :: f :: g :: h :: i :: j :: r)) : ∀ ρ', setV y v (a :: b :: c :: e :: f :: g :: h :: i :: j :: k :: r) = ρ' → K ρ' := setAt 9 hh q
theorem eraA9 (hh : hitAt y 9 (a :: b :: c :: e :: f :: g :: h :: i :: j :: k :: r) = true) (q : K (a :: b :: c :: e :: f :: g :: h :: i :: j :: r)) : ∀ ρ', eraseV y (a :: b :: c :: e :: f :: g :: h :: i :: j :: k :: r) = ρ' → K ρ' := eraAt 9 hh q
end
end
local macro_rules | `(tactic| walk_at "r") => `(tactic| with_unfolding_all rfl)
local macro_rules | `(tactic| walk_at "v") => `(tactic| (refine vGo ?_; first | refine setN (by kernel_rfl!) ?_ | refine setA0 (by kernel_rfl!) ?_ | refine setA1 (by kernel_rfl!) ?_ | refine setA2 (by kernel_rfl!) ?_ | refine setA3 (by kernel_rfl!) ?_ | refine setA4 (by kernel_rfl!) ?_ | refine setA5 (by kernel_rfl!) ?_ | refine setA6 (by kernel_rfl!) ?_ | refine setA7 (by kernel_rfl!) ?_ | refine setA8 (by kernel_rfl!) ?_ | refine setA9 (by kernel_rfl!) ?_))
local macro_rules | `(tactic| walk_at "u") => `(tactic| (refine uGo ?_; first | refine eraN (by kernel_rfl!) ?_ | refine eraA0 (by kernel_rfl!) ?_ | refine eraA1 (by kernel_rfl!) ?_ | refine eraA2 (by kernel_rfl!) ?_ | refine eraA3 (by kernel_rfl!) ?_ | refine eraA4 (by kernel_rfl!) ?_ | refine eraA5 (by kernel_rfl!) ?_ | refine eraA6 (by kernel_rfl!) ?_ | refine eraA7 (by kernel_rfl!) ?_ | refine eraA8 (by kernel_rfl!) ?_ | refine eraA9 (by kernel_rfl!) ?_))
local macro_rules | `(tactic| walk_at "x") => `(tactic| with_reducible first
  | refine eSimp (by walk_at "r") ?_ | refine eBi1 (by walk_at "r") (by assumption) (by walk_at "r") (by walk_at "r") ?_ | refine eCall (by walk_at "r") (by assumption) (by walk_at "r") ?_ | refine eItem (by walk_at "r") ?_ | refine eBin ?_ | refine eSlice ?_
  | refine eComp1 (by walk_at "r") ?_ | refine eComp2 (by walk_at "r") ?_ | refine eMeth (by walk_at "r") ?_ | refine eTuple ?_ | refine eList ?_ | refine eIf (by walk_at "r") (by walk_at "r") ?_ | refine eCmp (by walk_at "r") ?_)
local macro_rules | `(tactic| walk_at "s") => `(tactic| with_reducible first
  | refine sNew (by walk_at "r") ?_ | refine sNewO (by walk_at "r") ?_ | refine sNewS (by walk_at "r") ?_ | refine sIf ?_ | refine sRet ?_ | refine sListN (by walk_at "r") ?_ | refine sFor (by walk_at "r") ?_ | refine sForO (by walk_at "r") ?_ | refine sApp (by walk_at "r") (ltB (by walk_at "r")) ?_ | refine sBrk ?_)
local macro_rules | `(tactic| walk_at "b") => `(tactic| with_reducible first
  | refine bAdd ?_ | refine bMod (by with_unfolding_all decide) ?_ | refine bDiv (by with_unfolding_all decide) ?_ | refine bSub ?_ | refine bMul (Or.inl (sm_lit2 (by walk_at "r"))) ?_ | refine bMul (Or.inr (sm_lit2 (by walk_at "r"))) ?_ | refine bAnd ?_ | refine bXor ?_ | refine bSubB ?_)
local macro_rules | `(tactic| walk_at "e") => `(tactic| with_reducible first
  | (refine atE ?_; walk_at "x") | (refine atS ?_; walk_at "s") | refine thNext ?_ | refine ssCons ?_ | refine ssNil ?_ | walk_at "v" | refine coNext ?_ | refine thRet ?_ | refine esNil ?_ | refine esCons (by walk_at "r") ?_ | refine opNone ?_ | refine opSome ?_
  | refine tCmp (by walk_at "r") ?_ | (refine atB ?_; walk_at "b") | refine fpName (by walk_at "r") ?_ | refine fpNameO (by walk_at "r") ?_ | refine fpNil ?_ | refine coRet ?_ | refine thBrk ?_ | refine coBrk ?_
  | refine cEqI ?_ | refine cEqS ?_ | refine cNeI ?_ | refine cLtI ?_ | refine cGtI ?_ | refine cLtS ?_ | refine cGtS ?_ | refine condT ?_ | refine condF ?_ | refine trBool ?_ | refine tNot ?_ | refine tOr ?_ | refine tVal (by walk_at "r") ?_
  | refine rRange1f (by walk_at "r") (sm_lit2 (by walk_at "r")) ?_ | refine itIs range3 ?_ | refine itIs range4 ?_ | walk_at "u" | refine And.intro (Nat.le_of_ble_eq_true (by walk_at "r")) ?_ | refine andImm (by walk_at "r") ?_ | refine condAll (by walk_at "r") ?_)
section
set_option tactic.hygienic false
noncomputable def sIMODE : Spec := fun ds Q => ∃ m, ds = [.int m] ∧ Q (.int (Builtin.bitAnd m 4095))
theorem b_imode (T : Tab) (P : Params) : Body T 20 21 P [Str.ofString "mode"] sIMODE := by
  rintro ds Q ⟨m, rfl, h⟩
  refine ⟨rfl, ?_⟩
  dsimp only [List.zip, List.zipWith]
  conv => arg 3; whnf
  conv => arg 4; whnf
  repeat walk_at "e"
  exact h
noncomputable def sIFMT : Spec := fun ds Q => ∃ m, ds = [.int m] ∧ Q (.int (Builtin.bitAnd m 61440))
theorem b_ifmt (T : Tab) (P : Params) : Body T 20 28 P [Str.ofString "mode"] sIFMT := by
  rintro ds Q ⟨m, rfl, h⟩
  refine ⟨rfl, ?_⟩
  dsimp only [List.zip, List.zipWith]
  conv => arg 3; whnf
  conv => arg 4; whnf
  repeat walk_at "e"
  exact h
noncomputable def sCmp : Spec := fun ds Q => ∃ x y : Str, ds = [.str x, .str y] ∧ Q (.int (b2n (decide (y.cps.toList < x.cps.toList)) - b2n (decide (x.cps.toList < y.cps.toList))))
theorem b_cmp (T : Tab) (P : Params) : Body T 20 117 P [Str.ofString "x", Str.ofString "y"] sCmp := by
  rintro ds Q ⟨x, y, rfl, h⟩
  refine ⟨rfl, ?_⟩
  dsimp only [List.zip, List.zipWith]
  conv => arg 3; whnf
  conv => arg 4; whnf
  repeat walk_at "e"
  exact h

/-- the gate of a number -/
noncomputable def oth (t : Nat) : List Nat := [0, 1, 2, 3].filter fun r => !(r == t)
noncomputable def grd (o : Int) (w : Int) : List Int := if 0 < w then [2 * o + w - 1] else []
noncomputable def gateI (t : Nat) (w0 w1 w2 : Int) : List Int := (t : Int) :: (grd ((oth t).getD 0 0 : Nat) w0 ++ grd ((oth t).getD 1 0 : Nat) w1 ++ grd ((oth t).getD 2 0 : Nat) w2)
noncomputable def sGate : Spec := fun ds Q => ∃ n, ds = [.int n] ∧ ∀ (t : Nat) (w0 w1 w2 : Int), t < 4 → (0 ≤ w0 ∧ w0 < 3) → (0 ≤ w1 ∧ w1 < 3) → (0 ≤ w2 ∧ w2 < 3) → Q (.list ((gateI t w0 w1 w2).map .int))
theorem fl4 (t : Nat) (ht : t < 4) : ([] : List D) ++ List.map id (List.filter (fun d => match d with | .int i => !(i == ((t : Nat) : Int)) | _ => false) [.int 0, .int 1, .int 2, .int 3]) = (oth t).map fun o => .int o := by
  have hc : t = 0 ∨ t = 1 ∨ t = 2 ∨ t = 3 := by (first | lia | omega)
  rcases hc with rfl | rfl | rfl | rfl <;> rfl
set_option maxHeartbeats 4000000 in
theorem b_gate (T : Tab) (P : Params) (h1 : T.F (Str.ofString "range") = none) : Body T 20 164 P [Str.ofString "number"] sGate := by
  rintro ds Q ⟨n, rfl, h⟩
  refine ⟨rfl, ?_⟩
  dsimp only [List.zip, List.zipWith]
  conv => arg 3; whnf
  conv => arg 4; whnf
  repeat walk_at "e"
  refine comp1_filt (fun d => match d with | .int i => !(i == Int.fmod n 4) | _ => false) id _ _ _ (fun d hd Q' hq => ?_) (fun d hd hq Q' hQ => ?_) fun ρ' => ?_
  · simp only [List.mem_cons, List.not_mem_nil, or_false] at hd
    rcases hd with rfl | rfl | rfl | rfl <;> (repeat walk_at "e") <;> exact hq
  · repeat walk_at "e"
    exact hQ
  · obtain ⟨t, ht, hn⟩ : ∃ t : Nat, t < 4 ∧ Int.fmod n 4 = t := ⟨(Int.fmod n 4).toNat, by have := Int.fmod_lt_of_pos n (b := 4) (by decide); (first | lia | omega), by have := Int.fmod_nonneg_of_pos n (b := 4) (by decide); (first | lia | omega)⟩
    rw [hn]
    have hw : ∀ m : Int, 0 ≤ Int.fmod m 3 ∧ Int.fmod m 3 < 3 := fun m => ⟨Int.fmod_nonneg_of_pos m (by decide), Int.fmod_lt_of_pos m (by decide)⟩
    have hfin := h t _ _ _ ht (hw (Int.fdiv n 4)) (hw (Int.fdiv n 12)) (hw (Int.fdiv n 36))
    clear h
    have ho : (oth t).map (fun o => D.int (o : Nat)) = [.int ((oth t).getD 0 0 : Nat), .int ((oth t).getD 1 0 : Nat), .int ((oth t).getD 2 0 : Nat)] := by
      have hc : t = 0 ∨ t = 1 ∨ t = 2 ∨ t = 3 := by (first | lia | omega)
      rcases hc with rfl | rfl | rfl | rfl <;> rfl
    generalize hg : ([] : List D) ++ List.map id (List.filter _ _) = L
    obtain rfl := hg.symm.trans ((fl4 t ht).trans ho)
    clear hg ho
    unfold gateI at hfin
    generalize (((oth t).getD 0 0 : Nat) : Int) = o0 at hfin ⊢
    generalize (((oth t).getD 1 0 : Nat) : Int) = o1 at hfin ⊢
    generalize (((oth t).getD 2 0 : Nat) : Int) = o2 at hfin ⊢
    repeat walk_at "e"
    refine condB (fun c0 => ?_) fun c0 => ?_ <;> (repeat walk_at "e") <;>
    refine condB (fun c1 => ?_) fun c1 => ?_ <;> (repeat walk_at "e") <;>
    refine condB (fun c2 => ?_) fun c2 => ?_ <;> (repeat walk_at "e")
    all_goals
      simp only [decide_eq_true_eq, decide_eq_false_iff_not] at c0 c1 c2
      simp only [grd, c0, c1, c2, if_true, if_false] at hfin
      rw [hn]
      exact hfin
end
section
set_option tactic.hygienic false
/-- a text of the given code points -/
noncomputable def strOf (l : List Nat) : Str := ⟨l.toArray⟩
theorem strOf_app (a b : List Nat) : strOf a ++ strOf b = strOf (a ++ b) := by
  show (⟨a.toArray ++ b.toArray⟩ : Str) = ⟨(a ++ b).toArray⟩
  simp
theorem strOf_len (a : List Nat) : (strOf a).length = a.length := by
  show a.toArray.size = _
  simp
theorem fdN (a b : Nat) : Int.fdiv (a : Int) (b : Int) = ((a / b : Nat) : Int) := by
  rw [Int.fdiv_eq_ediv_of_nonneg _ (Int.natCast_nonneg b)]; exact (Int.natCast_ediv a b).symm
theorem fmN (a b : Nat) : Int.fmod (a : Int) (b : Int) = ((a % b : Nat) : Int) := by
  rw [Int.fmod_eq_emod_of_nonneg _ (Int.natCast_nonneg b)]; exact (Int.natCast_emod a b).symm

noncomputable def kinds : List Nat := [63, 112, 99, 63, 100, 63, 98, 63, 45, 63, 108, 63, 115, 63, 63, 63]
noncomputable def lastS (t : Nat) : List Nat := if t = 2 then [45, 120, 84, 116] else [45, 120, 83, 115]
noncomputable def sgnD (t d s : Nat) : List Nat := [if 3 < d then 114 else 45, if d / 2 % 2 = 1 then 119 else 45, (lastS t).getD (d % 2 + 2 * s) 0]
noncomputable def rowN (k r : Nat) : List Nat := kinds.getD k 0 :: (sgnD 0 (r / 64 % 8) (r / 2048 % 2) ++ sgnD 1 (r / 8 % 8) (r / 1024 % 2) ++ sgnD 2 (r / 1 % 8) (r / 512 % 2))

theorem p_kind {k : Nat} (h : k < 16) : strAt (Str.ofString "?pc?d?b?-?l?s???") (((k : Nat) : Int).toNat) = strOf [kinds.getD k 0] := by
  rw [Int.toNat_natCast]
  have : ∀ k < 16, strAt (Str.ofString "?pc?d?b?-?l?s???") k = strOf [kinds.getD k 0] := by decide +kernel
  exact this k h
theorem p_r (d : Nat) : (bif decide ((3 : Int) < ((d : Nat) : Int)) then Str.ofString "r" else Str.ofString "-") = strOf [if 3 < d then 114 else 45] := by
  have e : decide ((3 : Int) < ((d : Nat) : Int)) = decide (3 < d) := by simp only [decide_eq_decide]; omega
  rw [e]
  by_cases h : 3 < d
  · rw [decide_eq_true h, if_pos h]; decide +kernel
  · rw [decide_eq_false h, if_neg h]; decide +kernel
theorem p_w (d : Nat) : (bif (((d : Nat) : Int) == 1) then Str.ofString "w" else Str.ofString "-") = strOf [if d = 1 then 119 else 45] := by
  by_cases h : d = 1
  · subst h; decide +kernel
  · rw [beq_eq_false_iff_ne.mpr (by (first | lia | omega) : ((d : Nat) : Int) ≠ 1), if_neg h]; decide +kernel
theorem p_l (t : Nat) (x : Str) (hx : x = strOf (lastS t)) {i : Nat} (h : i < 4) : strAt x (((i : Nat) : Int).toNat) = strOf [(lastS t).getD i 0] := by
  rw [Int.toNat_natCast, hx]
  have h0 : ∀ i < 4, strAt (strOf (lastS 0)) i = strOf [(lastS 0).getD i 0] := by decide +kernel
  have h2 : ∀ i < 4, strAt (strOf (lastS 2)) i = strOf [(lastS 2).getD i 0] := by decide +kernel
  by_cases ht : t = 2
  · subst ht; exact h2 i h
  · have : lastS t = lastS 0 := by unfold lastS; rw [if_neg ht]; rfl
    rw [this]; exact h0 i h

noncomputable def sRow : Spec := fun ds Q => ∃ k r : Nat, k < 16 ∧ r < 4096 ∧ ds = [.int k, .int r] ∧ Q (.str (strOf (rowN k r)))
theorem p_dig (r a b : Nat) : Int.fmod (Int.fdiv (r : Int) (a : Int)) (b : Int) = ((r / a % b : Nat) : Int) := by rw [fdN, fmN]
theorem dStr {x y : List Nat} {Q : D → Prop} {T : Tab} (hl : x.length + y.length ≤ 100) (h : Q (.str (strOf (x ++ y)))) : binP T .Add (.str (strOf x)) (.str (strOf y)) Q :=
  bStr (by rw [strOf_len, strOf_len]; exact Nat.le_trans hl (by decide)) (by rw [strOf_app]; exact h)
theorem dR {T : Tab} {Q : D → Prop} {x : List Nat} {e : Int} (d : Nat) (he : e = d) (hl : x.length ≤ 30) (h : Q (.str (strOf (x ++ [if 3 < d then 114 else 45])))) : binP T .Add (.str (strOf x)) (mergeD (decide (3 < e)) (.str (Str.ofString "r")) (.str (Str.ofString "-"))) Q := by
  subst he
  show binP T .Add (.str (strOf x)) (.str (bif decide ((3 : Int) < ((d : Nat) : Int)) then Str.ofString "r" else Str.ofString "-")) Q
  rw [p_r]
  exact dStr (by rw [List.length_singleton]; (first | lia | omega)) h
theorem dW {T : Tab} {Q : D → Prop} {x : List Nat} {e : Int} (d : Nat) (he : e = d) (hl : x.length ≤ 30) (h : Q (.str (strOf (x ++ [if d / 2 % 2 = 1 then 119 else 45])))) : binP T .Add (.str (strOf x)) (mergeD (Int.fmod (Int.fdiv e 2) 2 == 1) (.str (Str.ofString "w")) (.str (Str.ofString "-"))) Q := by
  subst he
  rw [show Int.fmod (Int.fdiv (d : Int) 2) 2 = ((d / 2 % 2 : Nat) : Int) from p_dig d 2 2]
  show binP T .Add (.str (strOf x)) (.str (bif (((d / 2 % 2 : Nat) : Int) == 1) then Str.ofString "w" else Str.ofString "-")) Q
  rw [p_w]
  exact dStr (by rw [List.length_singleton]; (first | lia | omega)) h
theorem gL {Q : D → Prop} {e : Int} (t i : Nat) (he : e = i) (hi : i < 4) {s : Str} (hs : s = strOf (lastS t)) (h : Q (.str (strOf [(lastS t).getD i 0]))) : getP (.str s) (.int e) Q := by
  subst he
  refine gStr ⟨by (first | lia | omega), ?_, by (first | lia | omega)⟩ ?_
  · rw [hs, strOf_len]
    have : (lastS t).length = 4 := by unfold lastS; split <;> rfl
    (first | lia | omega)
  · rw [p_l t s hs hi]; exact h
set_option maxHeartbeats 4000000 in
theorem b_row (T : Tab) (P : Params) (h1 : T.F (Str.ofString "range") = none) : Body T 20 138 P [Str.ofString "kind", Str.ofString "rights"] sRow := by
  rintro ds Q ⟨k, r, hk, hr, rfl, h⟩
  refine ⟨rfl, ?_⟩
  dsimp only [List.zip, List.zipWith]
  conv => arg 3; whnf
  conv => arg 4; whnf
  repeat walk_at "e"
  refine gStr ⟨by (first | lia | omega), by rw [show (Str.ofString "?pc?d?b?-?l?s???").length = 16 from by decide +kernel]; (first | lia | omega), by (first | lia | omega)⟩ ?_
  rw [p_kind hk]
  have hd : ∀ a b : Nat, Int.fmod (Int.fdiv (r : Int) (a : Int)) (b : Int) = ((r / a % b : Nat) : Int) := p_dig r
  have h2 : ∀ d e : Int, ∀ a b : Nat, d = a → e = b → Int.fmod d 2 + 2 * e = ((a % 2 + 2 * b : Nat) : Int) := by
    rintro d e a b rfl rfl
    rw [show Int.fmod (a : Int) 2 = ((a % 2 : Nat) : Int) from fmN a 2]
    (first | lia | omega)
  have hA : Str.ofString "-xSs" = strOf (lastS 0) := by decide +kernel
  have hB : Str.ofString "-xSs" = strOf (lastS 1) := by decide +kernel
  have hC : Str.ofString "-xTt" = strOf (lastS 2) := by decide +kernel
  repeat walk_at "e"
  refine dR _ (hd 64 8) (by simp) ?_
  repeat walk_at "e"
  refine dW _ (hd 64 8) (by simp) ?_
  repeat walk_at "e"
  refine gL 0 _ (h2 _ _ _ _ (hd 64 8) (hd 2048 2)) (by (first | lia | omega)) hA ?_
  refine dStr (by simp) ?_
  repeat walk_at "e"
  refine dR _ (hd 8 8) (by simp) ?_
  repeat walk_at "e"
  refine dW _ (hd 8 8) (by simp) ?_
  repeat walk_at "e"
  refine gL 1 _ (h2 _ _ _ _ (hd 8 8) (hd 1024 2)) (by (first | lia | omega)) hB ?_
  refine dStr (by simp) ?_
  repeat walk_at "e"
  refine dR _ (hd 1 8) (by simp) ?_
  repeat walk_at "e"
  refine dW _ (hd 1 8) (by simp) ?_
  repeat walk_at "e"
  refine gL 2 _ (h2 _ _ _ _ (hd 1 8) (hd 512 2)) (by (first | lia | omega)) hC ?_
  refine dStr (by simp) ?_
  repeat walk_at "e"
  exact h
end
section
set_option tactic.hygienic false
theorem clip_nn (n j : Nat) : clipAt n (j : Int) = min j n := by
  unfold clipAt
  rw [if_neg (by omega)]
  omega
theorem slTake {x : List Nat} {Q : D → Prop} {e : Int} (j : Nat) (he : e = j) (hl : x.length ≤ 100) (h : Q (.str (strOf (x.take j)))) : sliceP (.str (strOf x)) none (some (.int e)) none Q := by
  subst he
  refine slStr rfl rfl (by rw [strOf_len]; exact Nat.le_trans hl (by decide)) ?_
  have : cutL none (some (j : Int)) (strOf x).cps.toList = x.take j := by
    show ((x.toArray.toList).drop 0).take (clipAt x.toArray.toList.length (j : Int) - 0) = _
    rw [clip_nn]
    simp
  rw [this]; exact h
theorem slDrop {x : List Nat} {Q : D → Prop} {e : Int} (j : Nat) (he : e = j) (hl : x.length ≤ 100) (h : Q (.str (strOf (x.drop j)))) : sliceP (.str (strOf x)) (some (.int e)) none none Q := by
  subst he
  refine slStr rfl rfl (by rw [strOf_len]; exact Nat.le_trans hl (by decide)) ?_
  have : cutL (some (j : Int)) none (strOf x).cps.toList = x.drop j := by
    show ((x.toArray.toList).drop (clipAt x.toArray.toList.length (j : Int))).take (x.toArray.toList.length - clipAt x.toArray.toList.length (j : Int)) = _
    rw [clip_nn]
    rw [List.take_of_length_le (by rw [List.length_drop]; (first | lia | omega))]
    rcases Nat.le_total j x.length with q | q
    · rw [Nat.min_eq_left (by simpa using q)]
    · rw [Nat.min_eq_right (by simpa using q)]
      simp [List.drop_eq_nil_of_le q]
  rw [this]; exact h
theorem gS2 {Q : D → Prop} {e : Int} {s : Str} (a b i : Nat) (hs : s = strOf [a, b]) (he : e = i) (hi : i < 2) (h : Q (.str (strOf [if i = 1 then b else a]))) : getP (.str s) (.int e) Q := by
  subst he
  subst hs
  refine gStr ⟨by (first | lia | omega), by rw [strOf_len]; simp; (first | lia | omega), by (first | lia | omega)⟩ ?_
  have hc : i = 0 ∨ i = 1 := by (first | lia | omega)
  rcases hc with rfl | rfl
  · exact h
  · exact h
noncomputable def sgnS (o st : Nat) : List Nat := [if st / 4 % 2 = 1 then 114 else 45, if st / 2 % 2 = 1 then 119 else 45, (lastS o).getD (st % 2 + 2 * (st / 8)) 0]
noncomputable def rowD (m o st : Nat) : List Nat := (rowN (m / 4096 % 16) (m % 4096)).take (1 + 3 * o) ++ sgnS o st ++ (rowN (m / 4096 % 16) (m % 4096)).drop (4 + 3 * o)
noncomputable def sRowDue : Spec := fun ds Q => ∃ m o st : Nat, o < 3 ∧ st < 16 ∧ ds = [.int m, .int o, .int st] ∧ Q (.str (strOf (rowD m o st)))
theorem lt3 : ∀ {o : Nat}, o < 3 → o = 0 ∨ o = 1 ∨ o = 2
  | 0, _ => .inl rfl
  | 1, _ => .inr (.inl rfl)
  | 2, _ => .inr (.inr rfl)
theorem own3 {o : Nat} (ho : o < 3) {Q : D → Prop} (h : Q (.str (strOf (lastS o)))) : getP (.tuple [.str (Str.ofString "-xSs"), .str (Str.ofString "-xSs"), .str (Str.ofString "-xTt")]) (.int (o : Int)) Q := by
  rcases lt3 ho with rfl | rfl | rfl
  · exact gTuple (by decide) (by rfl) (by rfl) (cast (congrArg (fun y => Q (.str y)) (by decide +kernel)) h)
  · exact gTuple (by decide) (by rfl) (by rfl) (cast (congrArg (fun y => Q (.str y)) (by decide +kernel)) h)
  · exact gTuple (by decide) (by rfl) (by rfl) (cast (congrArg (fun y => Q (.str y)) (by decide +kernel)) h)
set_option maxHeartbeats 4000000 in
theorem b_rowDue (T : Tab) (P : Params) (h1 : T.F (Str.ofString "_law_row") = some sRow) : Body T 20 145 P [Str.ofString "mode", Str.ofString "own", Str.ofString "state"] sRowDue := by
  rintro ds Q ⟨m, o, st, ho, hst, rfl, h⟩
  unfold rowD at h
  have hL : ∀ k r, (rowN k r).length = 10 := fun k r => rfl
  have hl := hL (m / 4096 % 16) (m % 4096)
  refine ⟨rfl, ?_⟩
  dsimp only [List.zip, List.zipWith]
  have hlast : Int.fmod (st : Int) 2 + 2 * Int.fdiv (st : Int) 8 = ((st % 2 + 2 * (st / 8) : Nat) : Int) := by
    rw [show Int.fmod (st : Int) 2 = ((st % 2 : Nat) : Int) from fmN st 2, show Int.fdiv (st : Int) 8 = ((st / 8 : Nat) : Int) from fdN st 8]
    (first | lia | omega)
  conv => arg 3; whnf
  conv => arg 4; whnf
  repeat walk_at "e"
  refine ⟨_, _, Nat.mod_lt (m / 4096) (by decide : 0 < 16), Nat.mod_lt m (by decide : 0 < 4096), by rw [← p_dig m 4096 16, ← fmN m 4096]; rfl, ?_⟩
  generalize rowN (m / 4096 % 16) (m % 4096) = row at h hl ⊢
  repeat walk_at "e"
  refine own3 ho ?_
  repeat walk_at "e"
  refine gL o _ hlast (by (first | lia | omega)) rfl ?_
  repeat walk_at "e"
  refine gS2 45 114 _ (by decide +kernel) (p_dig st 4 2) (Nat.mod_lt _ (by decide)) ?_
  repeat walk_at "e"
  refine gS2 45 119 _ (by decide +kernel) (p_dig st 2 2) (Nat.mod_lt _ (by decide)) ?_
  refine dStr (by simp) ?_
  repeat walk_at "e"
  refine dStr (by simp) ?_
  repeat walk_at "e"
  refine slTake (1 + 3 * o) (by push_cast; rfl) (by (first | lia | omega)) ?_
  repeat walk_at "e"
  refine dStr (by simp only [List.length_append, List.length_take, List.length_drop, List.length_cons, List.length_nil]; (first | lia | omega)) ?_
  repeat walk_at "e"
  refine slDrop (4 + 3 * o) (by push_cast; rfl) (by (first | lia | omega)) ?_
  repeat walk_at "e"
  refine dStr (by simp only [List.length_append, List.length_take, List.length_drop, List.length_cons, List.length_nil]; (first | lia | omega)) ?_
  repeat walk_at "e"
  exact h
end
section
set_option tactic.hygienic false
theorem slCut {x : List Nat} {Q : D → Prop} {e f : Int} (i j : Nat) (he : e = i) (hf : f = j) (hl : x.length ≤ 100) (h : Q (.str (strOf ((x.drop i).take (j - i))))) (hi : i ≤ x.length := by omega) (hj : j ≤ x.length := by omega) : sliceP (.str (strOf x)) (some (.int e)) (some (.int f)) none Q := by
  subst he hf
  refine slStr rfl rfl (by rw [strOf_len]; exact Nat.le_trans hl (by decide)) ?_
  have : cutL (some (i : Int)) (some (j : Int)) (strOf x).cps.toList = (x.drop i).take (j - i) := by
    show ((x.toArray.toList).drop (clipAt x.toArray.toList.length (i : Int))).take (clipAt x.toArray.toList.length (j : Int) - clipAt x.toArray.toList.length (i : Int)) = _
    rw [clip_nn, clip_nn]
    rw [Nat.min_eq_left (by simpa using hj), Nat.min_eq_left (by simpa using hi)]
  rw [this]; exact h
theorem gCp {Q : D → Prop} {e : Int} {x : List Nat} (i : Nat) (he : e = i) (hi : i < x.length) (hl : x.length ≤ 100) (h : Q (.str (strOf [x.getD i 0]))) : getP (.str (strOf x)) (.int e) Q := by
  subst he
  refine gStr ⟨by (first | lia | omega), by rw [strOf_len]; (first | lia | omega), by (first | lia | omega)⟩ ?_
  have : strAt (strOf x) ((i : Nat) : Int).toNat = strOf [x.getD i 0] := by
    show (⟨#[x.toArray.getD i 0]⟩ : Str) = ⟨#[x.getD i 0]⟩
    rw [Array.getD_eq_getD_getElem?, List.getD_eq_getElem?_getD]
    simp
  rw [this]; exact h
theorem rowD_len (m o st : Nat) (ho : o < 3) : (rowD m o st).length = 10 := by
  have hL : ∀ k r, (rowN k r).length = 10 := fun k r => rfl
  unfold rowD
  rw [List.length_append, List.length_append, List.length_take, List.length_drop, hL, show (sgnS o st).length = 3 from rfl]
  (first | lia | omega)
theorem rowD_cut (m o st : Nat) (ho : o < 3) : ((rowD m o st).drop (1 + 3 * o)).take (4 + 3 * o - (1 + 3 * o)) = sgnS o st := by
  have hL : ∀ k r, (rowN k r).length = 10 := fun k r => rfl
  have e : (List.take (1 + 3 * o) (rowN (m / 4096 % 16) (m % 4096))).length = 1 + 3 * o := by rw [List.length_take, hL]; (first | lia | omega)
  unfold rowD
  rw [List.append_assoc, List.drop_append_of_le_length (by (first | lia | omega)), List.drop_of_length_le (by (first | lia | omega)), List.nil_append, show 4 + 3 * o - (1 + 3 * o) = (sgnS o st).length from by rw [show (sgnS o st).length = 3 from rfl]; (first | lia | omega), List.take_left']
  rfl
theorem dRet {Q : D → Prop} {a b : Int} (e : a = b) (h : Q (.int b)) : Q (.int a) := e ▸ h
theorem mIdx {Q : D → Prop} (o st : Nat) (hst : st < 16) {s y : Str} (hs : s = strOf (lastS o)) (hy : y = strOf [(sgnS o st).getD 2 0]) (h : Q (.int ((st % 2 + 2 * (st / 8) : Nat) : Int))) : methP (Str.ofString "index") (.str s) [.str y] Q := by
  have e : Txt.find s y = ((st % 2 + 2 * (st / 8) : Nat) : Int) := by
    subst hs hy
    have h0 : ∀ st < 16, Txt.find (strOf (lastS 0)) (strOf [(sgnS 0 st).getD 2 0]) = ((st % 2 + 2 * (st / 8) : Nat) : Int) := by decide +kernel
    have h2 : ∀ st < 16, Txt.find (strOf (lastS 2)) (strOf [(sgnS 2 st).getD 2 0]) = ((st % 2 + 2 * (st / 8) : Nat) : Int) := by decide +kernel
    by_cases ho : o = 2
    · subst ho; exact h2 st hst
    · have e1 : lastS o = lastS 0 := by unfold lastS; rw [if_neg ho]; rfl
      have e2 : sgnS o st = sgnS 0 st := by unfold sgnS; rw [e1]
      rw [e1, e2]; exact h0 st hst
  exact mIndex (by rw [e]; (first | lia | omega)) (by rw [e]; exact h)
theorem bAddM {T : Tab} {Q : D → Prop} {c c' : Bool} {a b a' b' : Int} (h : Q (.int ((bif c then a else b) + (bif c' then a' else b')))) : binP T .Add (mergeD c (.int a) (.int b)) (mergeD c' (.int a') (.int b')) Q := bAdd h
noncomputable def sState : Spec := fun ds Q => ∃ m o st : Nat, o < 3 ∧ st < 16 ∧ ds = [.str (strOf (rowD m o st)), .int o] ∧ Q (.int st)
set_option maxHeartbeats 4000000 in
theorem b_state (T : Tab) (P : Params) : Body T 20 159 P [Str.ofString "row", Str.ofString "own"] sState := by
  rintro ds Q ⟨m, o, st, ho, hst, rfl, h⟩
  have hl := rowD_len m o st ho
  have hcut := rowD_cut m o st ho
  generalize rowD m o st = row at hl hcut ⊢
  refine ⟨rfl, ?_⟩
  dsimp only [List.zip, List.zipWith]
  conv => arg 3; whnf
  conv => arg 4; whnf
  repeat walk_at "e"
  refine slCut (1 + 3 * o) (4 + 3 * o) (by push_cast; rfl) (by push_cast; rfl) (by (first | lia | omega)) ?_
  rw [hcut]
  clear hcut hl
  repeat walk_at "e"
  refine own3 ho ?_
  repeat walk_at "e"
  refine ⟨rfl, ?_⟩
  repeat walk_at "e"
  refine gCp 2 rfl (ltB rfl) (Nat.le_of_ble_eq_true rfl) ?_
  refine mIdx o st hst rfl rfl ?_
  repeat walk_at "e"
  refine gCp 0 rfl (ltB rfl) (Nat.le_of_ble_eq_true rfl) ?_
  repeat walk_at "e"
  refine gCp 1 rfl (ltB rfl) (Nat.le_of_ble_eq_true rfl) ?_
  repeat walk_at "e"
  refine bAddM ?_
  repeat walk_at "e"
  refine dRet ?_ h
  clear h
  revert st
  rcases lt3 ho with rfl | rfl | rfl <;> decide +kernel
end
section
set_option tactic.hygienic false
/-- bytes of the given numbers -/
noncomputable def bOf (l : List Nat) : Array UInt8 := (l.map fun n => UInt8.ofNat n).toArray
theorem bOf_arr (l : List Nat) : byteArr (l.map fun n : Nat => (n : Int)) = bOf l := by
  unfold byteArr bOf
  rw [List.map_map]
  rfl
theorem bOf_list (l : List Nat) : (bOf l).toList = l.map fun n => UInt8.ofNat n := rfl
theorem bOf_size (l : List Nat) : (bOf l).size = l.length := by simp [bOf]
theorem u8_nat {n : Nat} (h : n < 256) : (UInt8.ofNat n).toNat = n := by
  rw [UInt8.toNat_ofNat']; exact Nat.mod_eq_of_lt h
noncomputable abbrev dN (n : Nat) : D := .int (n : Int)
theorem bOf_iter {l : List Nat} (h : ∀ n ∈ l, n < 256) : iterD (.bytes (bOf l)) = some (l.map dN) := by
  show some ((bOf l).toList.map fun c => D.int c.toNat) = _
  rw [bOf_list, List.map_map]
  refine congrArg some (List.map_congr_left fun n hn => ?_)
  show D.int ((UInt8.ofNat n).toNat : Nat) = _
  rw [u8_nat (h n hn)]
theorem slBTail {l : List Nat} {Q : D → Prop} (hl : l.length ≤ 100) (h : Q (.bytes (bOf l.tail))) : sliceP (.bytes (bOf l)) (some (.int 1)) none none Q := by
  refine slBytes rfl rfl (by rw [bOf_size]; exact Nat.le_trans hl (by decide)) ?_
  have : (cutL (some (1 : Int)) none (bOf l).toList).toArray = bOf l.tail := by
    rw [bOf_list]
    cases l with
    | nil => rfl
    | cons a l =>
      show (((List.map (fun n => UInt8.ofNat n) (a :: l)).drop (clipAt _ ((1 : Nat) : Int))).take (_ - clipAt _ ((1 : Nat) : Int))).toArray = _
      rw [clip_nn, Nat.min_eq_left (by simp)]
      simp only [List.drop_succ_cons, List.drop_zero, List.map_cons, List.tail_cons, bOf]
      rw [List.take_of_length_le (by simp)]
  rw [this]; exact h
theorem gB {l : List Nat} {i n : Nat} {Q : D → Prop} (hl : l.length ≤ 100) (hi : l[i]? = some n) (hn : n < 256) (h : Q (.int (n : Int))) : getP (.bytes (bOf l)) (.int (i : Int)) Q := by
  refine gBytes (c := UInt8.ofNat n) ⟨by (first | lia | omega), by rw [bOf_size]; exact Nat.le_trans hl (by decide)⟩ (by rw [bOf_list, Int.toNat_natCast, List.getElem?_map, hi]; rfl) ?_
  rw [u8_nat hn]; exact h
theorem dPow {T : Tab} {Q : D → Prop} {e : Int} (k : Nat) (he : e = k) (hk : k ≤ 30) (h : Q (.int ((2 ^ k : Nat) : Int))) : binP T .Pow (.int 2) (.int e) Q := by
  subst he
  refine bPow ⟨by (first | lia | omega), ?_⟩ ?_
  · have : Builtin.Int.intBits 2 = 2 := by decide +kernel
    rw [this]; (first | lia | omega)
  · rw [Int.toNat_natCast, show ((2 : Int) ^ k) = ((2 ^ k : Nat) : Int) from by simp]; exact h
theorem dDiv {T : Tab} {Q : D → Prop} {a b : Nat} (h0 : 0 < b) (h1 : b < 2 ^ 63) (h : Q (.int ((a / b : Nat) : Int))) : binP T .FloorDiv (.int (a : Int)) (.int (b : Int)) Q := by
  refine bDiv ⟨by (first | lia | omega), by (first | lia | omega)⟩ ?_
  rw [fdN]; exact h

section
variable {body orelse : Ab → (Fl → Ab → Prop) → Prop} {bind : D → Ab → Option Ab} {Q : Fl → Ab → Prop}
/-- a loop by what holds ahead of each turn -/
theorem forP_inv (I : List D → Ab → Prop) (h0 : ∀ σ, I [] σ → orelse σ Q)
    (h1 : ∀ d r σ, I (d :: r) σ → ∃ σ', bind d σ = some σ' ∧ ∀ K : Ab → Prop, (∀ σ'', I r σ'' → K σ'') → body σ' (contS K Q)) :
    ∀ (items : List D) (σ : Ab), I items σ → forP body orelse bind items σ Q
  | [], σ, h => h0 σ h
  | d :: r, σ, h => by
    obtain ⟨σ', hb, hk⟩ := h1 d r σ h
    exact fpCons hb (hk _ fun σ'' h' => forP_inv I h0 h1 r σ'' h')
end
theorem tValL {ev : Expr → (D → Prop) → Prop} {n : Nat} {elt : Expr} {gens : List Comprehension} {scope : Scope} {pos : Pos} {Q : Bool → Prop} (h : ev (.ListComp elt gens scope pos) fun d => truthP d Q) : wpT ev (n + 1) (.ListComp elt gens scope pos) Q := tVal rfl h

theorem bindName {sc : Scope} {y : Str} {py : Pos} {d : D} {ρ ρ' : List (Str × D)} (hs : storable sc y = true) (e : setV y d ρ = ρ') : bindT sc (.Name y py) d ⟨ρ, none, true⟩ = some ⟨ρ', none, true⟩ := by
  unfold bindT; simp only [hs, ← e]; rfl
theorem bindNameO {sc : Scope} {y x : Str} {py : Pos} {d : D} {ρ ρ' : List (Str × D)} {xs : List D} {pl : Bool} (hs : (storable sc y && !(x == y)) = true) (e : setV y d ρ = ρ') : bindT sc (.Name y py) d ⟨ρ, some (x, xs), pl⟩ = some ⟨ρ', some (x, xs), pl⟩ := by
  simp only [Bool.and_eq_true, Bool.not_eq_true'] at hs
  unfold bindT
  simp only [hs.1, if_true, ← e]
  unfold Ab.set
  simp only [hs.2]
  rfl
/-- a gate turns a state -/
noncomputable def goes (g : List Nat) (st : Nat) : Bool := g.tail.all fun q => st / 2 ^ (q / 2) % 2 == q % 2
noncomputable def stepN (g : List Nat) (st : Nat) : Nat := bif goes g st then st ^^^ 2 ^ (g.headD 0) else st
noncomputable def runN (gs : List (List Nat)) (st : Nat) : Nat := gs.foldl (fun s g => stepN g s) st
/-- what is asked of a gate here -/
noncomputable def GateIn (g : List Nat) : Prop := ∃ t q, g = t :: q ∧ t < 4 ∧ q.length ≤ 3 ∧ ∀ n ∈ q, n < 8
noncomputable abbrev dB (g : List Nat) : D := .bytes (bOf g)

theorem bx16 {a b : Nat} (ha : a < 16) (hb : b < 4) : Builtin.bitXor (a : Int) ((2 ^ b : Nat) : Int) = ((a ^^^ 2 ^ b : Nat) : Int) := by
  revert a b
  have : ∀ a : Nat, a < 16 → ∀ b : Nat, b < 4 → Builtin.bitXor (a : Int) ((2 ^ b : Nat) : Int) = ((a ^^^ 2 ^ b : Nat) : Int) := by decide +kernel
  exact fun {a b} ha hb => this a ha b hb
theorem xor16 {a b : Nat} (ha : a < 16) (hb : b < 4) : a ^^^ 2 ^ b < 16 := by
  have : ∀ a < 16, ∀ b < 4, a ^^^ 2 ^ b < 16 := by decide +kernel
  exact this a ha b hb

noncomputable def sRun : Spec := fun ds Q => ∃ (gs : List (List Nat)) (st : Nat), (∀ g ∈ gs, GateIn g) ∧ st < 16 ∧ ds = [.list (gs.map dB), .int st] ∧ Q (.int (runN gs st))
set_option maxHeartbeats 4000000 in
theorem b_run (T : Tab) (P : Params) : Body T 20 188 P [Str.ofString "gates", Str.ofString "state"] sRun := by
  rintro ds Q ⟨gs, st, hg, hst, rfl, h⟩
  refine ⟨rfl, ?_⟩
  dsimp only [List.zip, List.zipWith]
  conv => arg 3; whnf
  conv => arg 4; whnf
  repeat walk_at "e"
  refine itIs rfl ?_
  refine forP_inv (fun items σ => ∃ (gs : List (List Nat)) (now : Nat) (G S : D) (ρ : List (Str × D)), items = gs.map dB ∧ (∀ g ∈ gs, GateIn g) ∧ now < 16 ∧ Q (.int (runN gs now)) ∧ σ = ⟨ρ, none, true⟩ ∧ ρ.lookup (Str.ofString "now") = some (dN now) ∧
    (∀ d, setV (Str.ofString "gate") d ρ = [(Str.ofString "gate", d), (Str.ofString "now", dN now), (Str.ofString "gates", G), (Str.ofString "state", S)])) ?_ ?_ _ _ ⟨gs, st, _, _, _, rfl, hg, hst, h, rfl, by walk_at "r", fun d => by (simp only [setV, List.filter_cons, List.filter_nil, str_beq, String.reduceBEq, Bool.not_false, Bool.not_true, Bool.false_eq_true, ↓reduceIte]; rfl)⟩
  · rintro σ ⟨gs, now, G, S, ρ, e, hg, hn, hq, rfl, h3, h4⟩
    cases gs with
    | cons _ _ => cases e
    | nil =>
      repeat walk_at "e"
      refine eName h3 ?_
      exact hq
  · rintro d r σ ⟨gs, now, G, S, ρ, e, hg, hn, hq, rfl, h3, h4⟩
    cases gs with
    | nil => cases e
    | cons g gs =>
      cases e
      obtain ⟨t, q, rfl, ht, hq3, hq8⟩ := hg g (.head _)
      refine ⟨_, bindName (by walk_at "r") (h4 _), fun K hK => ?_⟩
      clear h4
      repeat walk_at "e"
      repeat walk_at "e"
      have hq256 : ∀ n ∈ q, n < 256 := fun n hn => Nat.lt_trans (hq8 n hn) (by decide)
      refine slBTail (by rw [List.length_cons]; (first | lia | omega)) ?_
      refine itIs (bOf_iter hq256) ⟨by rw [List.length_map]; exact Nat.le_trans hq3 (by decide), ?_⟩
      refine comp1_filt (fun d => match d with | .int i => !(now / 2 ^ (i.toNat / 2) % 2 == i.toNat % 2) | _ => false) id _ _ _ (fun d hd Q' hq => ?_) (fun d hd hq Q' hQ => ?_) fun ρ' => ?_
      · obtain ⟨n, hn, rfl⟩ := List.mem_map.mp hd
        have h8 := hq8 n hn
        clear hK
        repeat walk_at "e"
        refine dPow (n / 2) (fdN n 2) (by (first | lia | omega)) ?_
        refine dDiv (Nat.two_pow_pos _) (Nat.pow_lt_pow_right (by decide) (by (first | lia | omega))) ?_
        repeat walk_at "e"
        refine cast ?_ hq
        refine congrArg Q' ?_
        rw [show Int.fmod ((now / 2 ^ (n / 2) : Nat) : Int) 2 = ((now / 2 ^ (n / 2) % 2 : Nat) : Int) from fmN _ 2, show Int.fmod (n : Int) 2 = ((n % 2 : Nat) : Int) from fmN n 2]
        show (!(now / 2 ^ ((n : Int).toNat / 2) % 2 == (n : Int).toNat % 2)) = _
        rw [Int.toNat_natCast]
        refine congrArg not ?_
        by_cases e : now / 2 ^ (n / 2) % 2 = n % 2
        · rw [e]; simp
        · rw [beq_eq_false_iff_ne.mpr e, beq_eq_false_iff_ne.mpr (by (first | lia | omega))]
      · repeat walk_at "e"
        exact hQ
      · generalize hL : ([] ++ List.map id _ : List D) = L
        have hE : L.isEmpty = goes (t :: q) now := by
          rw [← hL]
          unfold goes
          rw [List.nil_append, List.map_id]
          show (List.filter _ (List.map dN q)).isEmpty = q.all _
          clear hL hq3 hq8 hq256 hq hg
          induction q with
          | nil => rfl
          | cons n q ih =>
            rw [List.map_cons, List.filter_cons, List.all_cons]
            show List.isEmpty (if (!(now / 2 ^ ((n : Int).toNat / 2) % 2 == (n : Int).toNat % 2)) = true then _ else _) = _
            rw [Int.toNat_natCast]
            cases e : (now / 2 ^ (n / 2) % 2 == n % 2) with
            | true => rw [if_neg (by simp), Bool.true_and]; exact ih
            | false => rw [if_pos (by simp), Bool.false_and]; rfl
        have hLL : L.length ≤ sizeLine := by
          rw [← hL, List.nil_append, List.length_map]
          refine Nat.le_trans (List.length_filter_le _ _) ?_
          rw [List.length_map]
          exact Nat.le_trans hq3 (by decide)
        clear hL
        refine trList hLL ?_
        rw [hE]
        clear hE hLL L
        have hstep : runN ((t :: q) :: gs) now = runN gs (stepN (t :: q) now) := rfl
        rw [hstep] at hq
        unfold stepN at hq
        cases hgo : goes (t :: q) now with
        | false =>
          rw [hgo] at hq
          refine condFr rfl ?_
          repeat walk_at "e"
          refine hK _ ⟨gs, now, G, S, _, rfl, fun g h => hg g (.tail _ h), hn, hq, rfl, by walk_at "r", fun d => by (simp only [setV, List.filter_cons, List.filter_nil, str_beq, String.reduceBEq, Bool.not_false, Bool.not_true, Bool.false_eq_true, ↓reduceIte])⟩
        | true =>
          rw [hgo] at hq
          refine condTr rfl ?_
          repeat walk_at "e"
          refine gB (i := 0) (n := t) (by rw [List.length_cons]; (first | lia | omega)) rfl (by (first | lia | omega)) ?_
          refine dPow t rfl (by (first | lia | omega)) ?_
          repeat walk_at "e"
          rw [bx16 hn ht]
          repeat walk_at "e"
          refine hK _ ⟨gs, now ^^^ 2 ^ t, G, S, _, rfl, fun g h => hg g (.tail _ h), xor16 hn ht, hq, rfl, by walk_at "r", fun d => by (simp only [setV, List.filter_cons, List.filter_nil, str_beq, String.reduceBEq, Bool.not_false, Bool.not_true, Bool.false_eq_true, ↓reduceIte])⟩
end
section
set_option tactic.hygienic false
theorem gAt {xs : List D} {e : Int} {d : D} {Q : D → Prop} (j : Nat) (he : e = j) (hj : j < 2 ^ 62) (hx : xs[j]? = some d) (h : Q d) : getP (.list xs) (.int e) Q := by
  subst he
  refine gList ⟨by (first | lia | omega), by (first | lia | omega)⟩ ?_ hx h
  have : j < xs.length := by
    rcases Nat.lt_or_ge j xs.length with q | q
    · exact q
    · rw [List.getElem?_eq_none q] at hx; cases hx
  unfold seqIndex?
  simp
  try (first | lia | omega)
theorem range_it {n : Nat} (h : n < 2 ^ 60) : iterD (.range 0 n 1) = some ((List.range n).map dN) := by
  have e : Builtin.Range.rangeSize 0 (n : Int) 1 = (n : Int) := by
    rw [rangeSize_nat]; simp
  show (if Builtin.Range.small 0 n 1 = true ∧ (1 : Int) ≠ 0 then some (rangeL 0 n 1) else none) = _
  rw [if_pos ⟨small_one (by (first | lia | omega)) (by (first | lia | omega)) (by (first | lia | omega)) (by (first | lia | omega)), by decide⟩]
  unfold rangeL
  rw [if_neg (by decide), e, Int.toNat_natCast]
  refine congrArg some (List.map_congr_left fun i _ => ?_)
  show D.int (0 + (i : Int) * 1) = D.int (i : Int)
  rw [Int.mul_one, Int.zero_add]
noncomputable def sCells : Spec := fun ds Q => ∃ ns : List Int, ns.length ≤ 63 ∧ ds = [.list (ns.map .int)] ∧ ∀ cs : List Int, cs.length = 8 → Q (.list (cs.map .int))
set_option maxHeartbeats 4000000 in
theorem b_cells (T : Tab) (P : Params) (h1 : T.F (Str.ofString "range") = none) (h2 : T.F (Str.ofString "len") = none) : Body T 20 131 P [Str.ofString "script"] sCells := by
  rintro ds Q ⟨ns, hns, rfl, h⟩
  refine ⟨rfl, ?_⟩
  dsimp only [List.zip, List.zipWith]
  conv => arg 3; whnf
  conv => arg 4; whnf
  repeat walk_at "e"
  have hlen : lenD (.list (ns.map .int)) = some ns.length := congrArg some (List.length_map ..)
  have hz : ns.length ≤ sizeLine := Nat.le_trans hns (by decide)
  have hsm : Sm (ns.length : Int) := ⟨by (first | lia | omega), by (first | lia | omega)⟩
  have hit := range_it (n := ns.length) (by (first | lia | omega))
  with_reducible refine rLen hlen hz ?_
  with_reducible refine rRange1 hsm ?_
  with_reducible refine itIs hit ?_
  refine forP_inv (fun items σ => ∃ (cs : List Int) (ρ : List (Str × D)) (pl : Bool), (∀ d ∈ items, ∃ i : Nat, i < ns.length ∧ d = dN i) ∧ cs.length = 8 ∧ σ = ⟨ρ, some (Str.ofString "cells", cs.map .int), pl⟩ ∧
    (∀ d, setV (Str.ofString "place") d ρ = [(Str.ofString "place", d), (Str.ofString "script", .list (ns.map .int))])) ?_ ?_ _ _ ⟨[33188, 1, 0, 107, 9, 86, 52, 91], _, _, fun d hd => by
      obtain ⟨i, hi, rfl⟩ := List.mem_map.mp hd
      exact ⟨i, List.mem_range.mp hi, rfl⟩, rfl, rfl, fun d => by (simp only [setV, List.filter_cons, List.filter_nil, str_beq, String.reduceBEq, Bool.not_false, Bool.not_true, Bool.false_eq_true, ↓reduceIte])⟩
  · rintro σ ⟨cs, ρ, pl, _, hc, rfl, _⟩
    repeat walk_at "e"
    exact h cs hc
  · rintro d r σ ⟨cs, ρ, pl, hi, hc, rfl, hp⟩
    obtain ⟨i, hil, rfl⟩ := hi _ (.head _)
    refine ⟨_, bindNameO (by walk_at "r") (hp _), fun K hK => ?_⟩
    repeat walk_at "e"
    refine sSub (by walk_at "r") (by rw [List.length_map, hc]; decide) ?_
    have hj : i % 8 < 8 := Nat.mod_lt _ (by decide)
    obtain ⟨c, hcj⟩ : ∃ c, cs[i % 8]? = some c := ⟨_, List.getElem?_eq_getElem (by rw [hc]; exact hj)⟩
    obtain ⟨w, hw⟩ : ∃ w, ns[i]? = some w := ⟨_, List.getElem?_eq_getElem hil⟩
    repeat walk_at "e"
    have e1 : (cs.map D.int)[i % 8]? = some (.int c) := by rw [List.getElem?_map, hcj]; rfl
    have e2 : (ns.map D.int)[i]? = some (.int w) := by rw [List.getElem?_map, hw]; rfl
    have e3 : i % 8 < 2 ^ 62 := by (first | lia | omega)
    have e4 : i < 2 ^ 62 := by (first | lia | omega)
    have e5 : Int.fmod (i : Int) 8 = ((i % 8 : Nat) : Int) := fmN i 8
    with_reducible refine gAt (i % 8) e5 e3 e1 ?_
    repeat walk_at "e"
    with_reducible refine gAt i rfl e4 e2 ?_
    repeat walk_at "e"
    rw [e5]
    refine ⟨⟨Int.natCast_nonneg _, by rw [List.length_map, hc]; exact Int.ofNat_lt.mpr hj⟩, ?_⟩
    repeat walk_at "e"
    refine hK _ ⟨cs.set (i % 8) (c + w), [(Str.ofString "place", dN i), (Str.ofString "script", .list (ns.map .int))], false, fun d hd => hi d (.tail _ hd), by rw [List.length_set, hc], ?_, fun d => by (simp only [setV, List.filter_cons, List.filter_nil, str_beq, String.reduceBEq, Bool.not_false, Bool.not_true, Bool.false_eq_true, ↓reduceIte])⟩
    rw [List.map_set, Int.toNat_natCast]
end
section
set_option tactic.hygienic false
section
variable {x y : Str} {elt iter2 : Expr} {ev : List (Str × D) → Expr → (D → Prop) → Prop} {tv : List (Str × D) → Expr → (Bool → Prop) → Prop} {base : List (Str × D)}
/-- the inner walk: what it leaves of the names -/
theorem comp1_map' {Q : List (Str × D) → List D → Prop} (f : D → D) : ∀ (items : List D) (ρ : List (Str × D)) (acc : List D),
    (∀ d ∈ items, ∀ Q', Q' (f d) → ev (setV y d ρ) elt Q') → (∀ ρ', (ρ' = ρ ∨ ∃ d, ρ' = setV y d ρ) → Q ρ' (acc ++ items.map f)) → comp1 y [] elt ev tv items ρ acc Q := comp1_map f
theorem comp2_map {Q : List D → Prop} (hxb : base.filter (fun p => !(p.1 == x)) = base) (hyb : base.filter (fun p => !(p.1 == y)) = base) (hxy : (y == x) = false) (hyx : (x == y) = false) (v : D → D) (inner : D → List D) (f : D → D → D) :
    ∀ (items : List D) (ρ : List (Str × D)) (acc : List D),
    (ρ = base ∨ (∃ d, ρ = (x, d) :: base) ∨ (∃ d e, ρ = (x, d) :: (y, e) :: base) ∨ ∃ d e, ρ = (y, e) :: (x, d) :: base) →
    (∀ d ∈ items, ∀ tl, (tl = base ∨ ∃ e, tl = (y, e) :: base) → ∀ Q', Q' (v d) → ev ((x, d) :: tl) iter2 Q') →
    (∀ d ∈ items, iterD (v d) = some (inner d)) →
    (∀ d ∈ items, ∀ e ∈ inner d, ∀ Q', Q' (f d e) → ev ((y, e) :: (x, d) :: base) elt Q') →
    (acc.length + (items.flatMap fun d => (inner d).map (f d)).length ≤ sizeLine) →
    Q (acc ++ items.flatMap fun d => (inner d).map (f d)) → comp2 x y iter2 elt ev tv items ρ acc Q
  | [], ρ, acc, _, _, _, _, _, h => by
    rw [List.flatMap_nil, List.append_nil] at h
    exact h
  | d :: r, ρ, acc, hρ, h1, hv, h2, hz, h => by
    show ev (setV x d ρ) iter2 fun w => (iterD w).elim False fun items => acc.length + items.length ≤ sizeLine ∧ comp1 y [] elt ev tv items (setV x d ρ) acc fun ρ' acc' => comp2 x y iter2 elt ev tv r ρ' acc' Q
    have hs : setV x d ρ = (x, d) :: base ∨ ∃ e, setV x d ρ = (x, d) :: (y, e) :: base := by
      unfold setV
      rcases hρ with rfl | ⟨d, rfl⟩ | ⟨d, e, rfl⟩ | ⟨d, e, rfl⟩
      · exact .inl (by rw [hxb])
      · exact .inl (by rw [List.filter_cons]; simp only [beq_self_eq_true, Bool.not_true, Bool.false_eq_true, if_false]; rw [hxb])
      · exact .inr ⟨e, by simp only [List.filter_cons, beq_self_eq_true, Bool.not_true, Bool.false_eq_true, if_false, hxy, Bool.not_false, if_true]; rw [hxb]⟩
      · exact .inr ⟨e, by simp only [List.filter_cons, beq_self_eq_true, Bool.not_true, Bool.false_eq_true, if_false, hxy, Bool.not_false, if_true]; rw [hxb]⟩
    have hsy : ∀ e, setV y e (setV x d ρ) = (y, e) :: (x, d) :: base := fun e => by
      rcases hs with q | ⟨e', q⟩
      · rw [q]; unfold setV
        simp only [List.filter_cons, hyx, Bool.not_false, if_true]; rw [hyb]
      · rw [q]; unfold setV
        simp only [List.filter_cons, hyx, Bool.not_false, if_true, beq_self_eq_true, Bool.not_true, Bool.false_eq_true, if_false]; rw [hyb]
    rw [List.flatMap_cons, List.length_append, List.length_map] at hz
    have step : (iterD (v d)).elim False fun items => acc.length + items.length ≤ sizeLine ∧ comp1 y [] elt ev tv items (setV x d ρ) acc fun ρ' acc' => comp2 x y iter2 elt ev tv r ρ' acc' Q := by
      rw [hv d (.head _)]
      refine ⟨by (first | lia | omega), comp1_map' (f d) _ _ _ (fun e he Q' hq => ?_) fun ρ' hρ' => ?_⟩
      · rw [hsy]; exact h2 d (.head _) e he Q' hq
      · refine comp2_map hxb hyb hxy hyx v inner f r ρ' _ ?_ (fun d hd => h1 d (.tail _ hd)) (fun d hd => hv d (.tail _ hd)) (fun d hd => h2 d (.tail _ hd)) ?_ ?_
        · rcases hρ' with rfl | ⟨e, rfl⟩
          · rcases hs with q | ⟨e, q⟩
            · exact .inr (.inl ⟨d, q⟩)
            · exact .inr (.inr (.inl ⟨d, e, q⟩))
          · exact .inr (.inr (.inr ⟨d, e, hsy e⟩))
        · rw [List.length_append, List.length_map]; (first | lia | omega)
        · rw [List.flatMap_cons] at h
          rw [List.append_assoc]; exact h
    rcases hs with q | ⟨e, q⟩
    · rw [q] at step ⊢
      exact h1 d (.head _) base (.inl rfl) _ step
    · rw [q] at step ⊢
      exact h1 d (.head _) _ (.inr ⟨e, rfl⟩) _ step
end

noncomputable def cmpI (x y : Str) : Int := b2n (decide (y.cps.toList < x.cps.toList)) - b2n (decide (x.cps.toList < y.cps.toList))
/-- the pairs of places, the lesser one behind -/
noncomputable def prs {α : Type} (f : Nat → Nat → α) : List α := (List.range 16).flatMap fun i => (List.range i).map fun j => f i j
/-- functions of a number, on data -/
noncomputable def lD (g : Nat → D) : D → D
  | .int i => g i.toNat
  | _ => .none
noncomputable def lL (g : Nat → List D) : D → List D
  | .int i => g i.toNat
  | _ => []
theorem pairs_eq (f : D → D → D) (items : List D) (g : Nat → Nat → D) (hf : ∀ i j : Nat, f (dN i) (dN j) = g i j) (hi : items = (List.range 16).map dN := by rfl) : (items.flatMap fun d => (lL (fun i => (List.range i).map dN) d).map (f d)) = prs g := by
  subst hi
  rw [List.flatMap_map]
  unfold prs
  refine congrArg (fun k => List.flatMap k (List.range 16)) (funext fun i => ?_)
  show (((List.range (i : Int).toNat).map dN).map (f (dN i))) = _
  rw [Int.toNat_natCast, List.map_map]
  exact List.map_congr_left fun j _ => hf i j
theorem prs_len {α : Type} (g : Nat → Nat → α) : (prs g).length = 120 := by
  unfold prs
  simp only [List.length_flatMap, List.length_map, List.length_range]
  decide +kernel
theorem pairs_len (f : D → D → D) (g : Nat → Nat → D) (hf : ∀ i j : Nat, f (dN i) (dN j) = g i j) : ([] : List D).length + (((List.range 16).map dN).flatMap fun d => (lL (fun i => (List.range i).map dN) d).map (f d)).length ≤ sizeLine := by
  rw [pairs_eq f _ g hf, prs_len]
  decide
theorem range16 : iterD (.range 0 16 1) = some ((List.range 16).map dN) := range_it (n := 16) (by decide)
noncomputable def sMarks : Spec := fun ds Q => ∃ r : Nat → Str, ds = [.list ((List.range 16).map fun i => .str (r i))] ∧ Q (.list (prs fun i j => .int (cmpI (r i) (r j))))
theorem rRangeN {Q : D → Prop} {e : Int} (n : Nat) (he : e = n) (h : n < 1000) (hq : Q (.range 0 (n : Int) 1)) : biP (Str.ofString "range") [.int e] Q := by
  subst he
  exact rRange1 ⟨by (first | lia | omega), by (first | lia | omega)⟩ hq
set_option maxHeartbeats 4000000 in
theorem b_marks (T : Tab) (P : Params) (h1 : T.F (Str.ofString "range") = none) (h2 : T.F (Str.ofString "three_way_cmp") = some sCmp) : Body T 20 193 P [Str.ofString "rows"] sMarks := by
  rintro ds Q ⟨r, rfl, h⟩
  refine ⟨rfl, ?_⟩
  dsimp only [List.zip, List.zipWith]
  conv => arg 3; whnf
  conv => arg 4; whnf
  generalize hR : D.list ((List.range 16).map fun i => .str (r i)) = R
  repeat walk_at "e"
  with_reducible refine itIs range16 ?_
  refine comp2_map (base := [(Str.ofString "rows", R)]) (by kernel_rfl!) (by kernel_rfl!) (by kernel_rfl!) (by kernel_rfl!) (lD fun i => .range 0 i 1) (lL fun i => (List.range i).map dN) (fun d e => lD (fun i => lD (fun j => .int (cmpI (r i) (r j))) e) d) _ _ _ (.inl (by walk_at "r")) ?_ ?_ ?_ (pairs_len _ _ fun _ _ => rfl) ?_
  · intro d hd tl ht Q' hq
    obtain ⟨i, hi, rfl⟩ := List.mem_map.mp hd
    have hi := List.mem_range.mp hi
    rcases ht with rfl | ⟨e, rfl⟩
    · repeat walk_at "e"
      exact rRangeN i rfl (by (first | lia | omega)) hq
    · repeat walk_at "e"
      exact rRangeN i rfl (by (first | lia | omega)) hq
  · intro d hd
    obtain ⟨i, hi, rfl⟩ := List.mem_map.mp hd
    have hi := List.mem_range.mp hi
    exact range_it (by (first | lia | omega))
  · intro d hd e he Q' hq
    obtain ⟨i, hi, rfl⟩ := List.mem_map.mp hd
    obtain ⟨j, hj, rfl⟩ := List.mem_map.mp he
    have hi := List.mem_range.mp hi
    have hj : j < i := List.mem_range.mp hj
    have e1 : ((List.range 16).map fun i => D.str (r i))[i]? = some (.str (r i)) := by rw [List.getElem?_map, List.getElem?_range hi]; rfl
    have e2 : ((List.range 16).map fun i => D.str (r i))[j]? = some (.str (r j)) := by rw [List.getElem?_map, List.getElem?_range (by (first | lia | omega))]; rfl
    have e3 : i < 2 ^ 62 := by (first | lia | omega)
    have e4 : j < 2 ^ 62 := by (first | lia | omega)
    repeat walk_at "e"
    subst hR
    refine gAt i rfl e3 e1 ?_
    repeat walk_at "e"
    refine gAt j rfl e4 e2 ?_
    repeat walk_at "e"
    exact ⟨r i, r j, rfl, hq⟩
  · rw [List.nil_append, pairs_eq _ _ (fun i j => D.int (cmpI (r i) (r j))) (fun _ _ => rfl)]
    repeat walk_at "e"
    exact h
end
section
set_option tactic.hygienic false
theorem gAtT {xs : List D} {e : Int} {d : D} {Q : D → Prop} (j : Nat) (he : e = j) (hj : j < 2 ^ 62) (hx : xs[j]? = some d) (h : Q d) : getP (.tuple xs) (.int e) Q := by
  subst he
  refine gTuple ⟨by (first | lia | omega), by (first | lia | omega)⟩ ?_ hx h
  have : j < xs.length := by
    rcases Nat.lt_or_ge j xs.length with q | q
    · exact q
    · rw [List.getElem?_eq_none q] at hx; cases hx
  unfold seqIndex?
  simp
  try (first | lia | omega)
/-- the figure by which a state's row is told -/
noncomputable def lastK (j : Nat) : Nat := [0, 3, 1, 2].getD j 0
noncomputable def keyN (st : Nat) : Nat := st / 2 % 4 * 4 + lastK (st % 2 + 2 * (st / 8))
theorem h_last (st : Nat) : Int.fmod (st : Int) 2 + 2 * Int.fdiv (st : Int) 8 = ((st % 2 + 2 * (st / 8) : Nat) : Int) := by
  rw [show Int.fmod (st : Int) 2 = ((st % 2 : Nat) : Int) from fmN st 2, show Int.fdiv (st : Int) 8 = ((st / 8 : Nat) : Int) from fdN st 8]
  (first | lia | omega)
noncomputable def sMarksDue : Spec := fun ds Q => ∃ (S : D) (l : Nat → Nat), ds = [S] ∧ iterD S = some ((List.range 16).map fun i => dN (l i)) ∧ (∀ i, i < 16 → l i < 16) ∧ Q (.list (prs fun i j => .int (bif decide (keyN (l j) < keyN (l i)) then 1 else -1)))
set_option maxHeartbeats 4000000 in
theorem b_marksDue (T : Tab) (P : Params) (h1 : T.F (Str.ofString "range") = none) : Body T 20 198 P [Str.ofString "states"] sMarksDue := by
  rintro ds Q ⟨S, l, rfl, hS, hl, h⟩
  refine ⟨rfl, ?_⟩
  dsimp only [List.zip, List.zipWith]
  conv => arg 3; whnf
  conv => arg 4; whnf
  repeat walk_at "e"
  with_reducible refine itIs hS ⟨by rw [List.length_map, List.length_range]; decide, ?_⟩
  refine comp1_map (lD fun st => dN (keyN st)) _ _ _ (fun d hd Q' hq => ?_) fun ρ' hρ' => ?_
  · obtain ⟨i, hi, rfl⟩ := List.mem_map.mp hd
    have hi := hl i (List.mem_range.mp hi)
    generalize l i = st at hi hq ⊢
    repeat walk_at "e"
    have hx : ([.int 0, .int 3, .int 1, .int 2] : List D)[st % 2 + 2 * (st / 8)]? = some (dN (lastK (st % 2 + 2 * (st / 8)))) := by
      have : ∀ j, j < 4 → ([.int 0, .int 3, .int 1, .int 2] : List D)[j]? = some (dN (lastK j)) := by
        intro j hj
        have hc : j = 0 ∨ j = 1 ∨ j = 2 ∨ j = 3 := by (first | lia | omega)
        rcases hc with rfl | rfl | rfl | rfl <;> rfl
      exact this _ (by (first | lia | omega))
    have hlt : st % 2 + 2 * (st / 8) < 2 ^ 62 := by (first | lia | omega)
    refine gAtT _ (h_last st) hlt hx ?_
    repeat walk_at "e"
    refine dRet (b := ((keyN st : Nat) : Int)) ?_ hq
    rw [show Int.fmod (Int.fdiv (st : Int) 2) 4 = ((st / 2 % 4 : Nat) : Int) from p_dig st 2 4]
    unfold keyN
    (first | lia | omega)
  · have hk : [] ++ List.map (lD fun st => dN (keyN st)) (List.map (fun i => dN (l i)) (List.range 16)) = (List.range 16).map fun i => dN (keyN (l i)) := by
      rw [List.nil_append, List.map_map]
      rfl
    rw [hk]
    clear hk hρ'
    generalize hR : D.list ((List.range 16).map fun i => dN (keyN (l i))) = R
    repeat walk_at "e"
    with_reducible refine itIs range16 ?_
    refine comp2_map (base := [(Str.ofString "keys", R)]) (by kernel_rfl!) (by kernel_rfl!) (by kernel_rfl!) (by kernel_rfl!) (lD fun i => .range 0 i 1) (lL fun i => (List.range i).map dN) (fun d e => lD (fun i => lD (fun j => .int (bif decide (keyN (l j) < keyN (l i)) then 1 else -1)) e) d) _ _ _ (.inl (by walk_at "r")) ?_ ?_ ?_ (pairs_len _ _ fun _ _ => rfl) ?_
    · intro d hd tl ht Q' hq
      obtain ⟨i, hi, rfl⟩ := List.mem_map.mp hd
      have hi := List.mem_range.mp hi
      rcases ht with rfl | ⟨e, rfl⟩
      · repeat walk_at "e"
        exact rRangeN i rfl (by (first | lia | omega)) hq
      · repeat walk_at "e"
        exact rRangeN i rfl (by (first | lia | omega)) hq
    · intro d hd
      obtain ⟨i, hi, rfl⟩ := List.mem_map.mp hd
      have hi := List.mem_range.mp hi
      exact range_it (by (first | lia | omega))
    · intro d hd e he Q' hq
      obtain ⟨i, hi, rfl⟩ := List.mem_map.mp hd
      obtain ⟨j, hj, rfl⟩ := List.mem_map.mp he
      have hi := List.mem_range.mp hi
      have hj : j < i := List.mem_range.mp hj
      have e1 : ((List.range 16).map fun i => dN (keyN (l i)))[i]? = some (dN (keyN (l i))) := by rw [List.getElem?_map, List.getElem?_range hi]; rfl
      have e2 : ((List.range 16).map fun i => dN (keyN (l i)))[j]? = some (dN (keyN (l j))) := by rw [List.getElem?_map, List.getElem?_range (by (first | lia | omega))]; rfl
      have e3 : i < 2 ^ 62 := by (first | lia | omega)
      have e4 : j < 2 ^ 62 := by (first | lia | omega)
      repeat walk_at "e"
      subst hR
      refine gAt i rfl e3 e1 ?_
      repeat walk_at "e"
      refine gAt j rfl e4 e2 ?_
      repeat walk_at "e"
      refine cast (congrArg Q' ?_) hq
      show D.int (bif decide (keyN (l j) < keyN (l i)) then 1 else -1) = D.int (bif decide (((keyN (l j) : Nat) : Int) < ((keyN (l i) : Nat) : Int)) then 1 else -1)
      rw [show decide (((keyN (l j) : Nat) : Int) < ((keyN (l i) : Nat) : Int)) = decide (keyN (l j) < keyN (l i)) from by simp only [decide_eq_decide]; (first | lia | omega)]
    · rw [List.nil_append, pairs_eq _ _ (fun i j => D.int (bif decide (keyN (l j) < keyN (l i)) then 1 else -1)) (fun _ _ => rfl)]
      repeat walk_at "e"
      exact h
end
section
set_option tactic.hygienic false
section
variable {T : Tab} {sc : Scope} {t : Expr} {b : List Stmt} {p : Pos} {Q : Fl → Ab → Prop}
/-- a while by what holds ahead of each turn, and a measure -/
theorem wWhile (I : Nat → Ab → Prop) (n0 : Nat) (step : ∀ m σ, I m σ → ∀ n, n0 ≤ n → ∀ (K : Ab → Prop), (∀ m' σ', m' < m → I m' σ' → K σ') → wpT (wpE T n sc σ.all) n t fun c => bif c then wpSs T n sc b σ (contS K Q) else Q .next σ) :
    ∀ m n σ, n0 + m ≤ n → I m σ → wpS T (n + 1) sc (.While t b [] p) σ Q := by
  intro m
  induction m using Nat.strongRecOn with
  | ind m ih =>
    intro n σ hn hI
    refine SP.while _ _ _ (step m σ hI n (by (first | lia | omega)) (fun σ' => wpS T n sc (.While t b [] p) σ' Q) fun m' σ' hm hI' => ?_)
    obtain ⟨k, rfl⟩ : ∃ k, n = k + 1 := ⟨n - 1, by (first | lia | omega)⟩
    exact ih m' hm k σ' (by (first | lia | omega)) hI'
end
/-- the rings -/
noncomputable def freeN (seen : List Nat) : Nat := ((List.range 16).filter fun i => !seen.elem i).length
noncomputable def chase (l : Nat → Nat) : Nat → Nat → List Nat → List Nat
  | 0, _, seen => seen
  | n + 1, at_, seen => bif seen.elem at_ then seen else chase l n (l at_) (seen ++ [at_])
noncomputable def turnR (l : Nat → Nat) (p : Nat × List Nat) (st : Nat) : Nat × List Nat := ((bif p.2.elem st then p.1 else p.1 + 1), chase l 16 st p.2)
noncomputable def ringsN (l : Nat → Nat) : Nat := ((List.range 16).foldl (turnR l) (0, [])).1
theorem free_app {seen : List Nat} {a : Nat} (ha : a < 16) (hs : seen.elem a = false) : freeN (seen ++ [a]) < freeN seen := by
  unfold freeN
  have hsub : ∀ (xs : List Nat), (xs.filter fun i => !(seen ++ [a]).elem i).length ≤ (xs.filter fun i => !seen.elem i).length ∧ (a ∈ xs → (xs.filter fun i => !(seen ++ [a]).elem i).length < (xs.filter fun i => !seen.elem i).length) := by
    intro xs
    have el : ∀ i, (seen ++ [a]).elem i = (seen.elem i || i == a) := by
      intro i
      rw [Bool.eq_iff_iff]
      simp
    induction xs with
    | nil => exact ⟨Nat.le_refl _, fun h => by cases h⟩
    | cons x r ih =>
      rw [List.filter_cons, List.filter_cons, el x]
      by_cases hx : x = a
      · subst hx
        rw [hs]
        simp only [beq_self_eq_true, Bool.or_true, Bool.not_true, Bool.false_eq_true, if_false, Bool.not_false, if_true, List.length_cons]
        exact ⟨by omega, fun _ => by omega⟩
      · have hb : (x == a) = false := by simpa using hx
        rw [hb, Bool.or_false]
        cases seen.elem x with
        | true => 
          simp only [Bool.not_true, Bool.false_eq_true, if_false]
          exact ⟨ih.1, fun h => ih.2 (by rcases List.mem_cons.mp h with h | h; exact absurd h.symm hx; exact h)⟩
        | false =>
          simp only [Bool.not_false, if_true, List.length_cons]
          exact ⟨by omega, fun h => by have := ih.2 (by rcases List.mem_cons.mp h with h | h; exact absurd h.symm hx; exact h); omega⟩
  exact (hsub _).2 (List.mem_range.mpr ha)
theorem notIn_dN {seen : List Nat} {a : Nat} : (dN a ∉ seen.map dN) ↔ seen.elem a = false := by
  have e : dN a ∈ seen.map dN ↔ a ∈ seen := by
    constructor
    · intro h
      obtain ⟨b, hb, e⟩ := List.mem_map.mp h
      injection e with e
      have : b = a := by (first | lia | omega)
      exact this ▸ hb
    · exact fun h => List.mem_map.mpr ⟨a, h, rfl⟩
  rw [e]
  simp
theorem cNotInN {seen : List Nat} {a : Nat} {Q : Bool → Prop} (h : Q (!seen.elem a)) : cmpP .NotIn (dN a) (.list (seen.map dN)) Q := by
  refine cNotIn ?_ fun t ht => ?_
  · rw [List.all_map]
    exact List.all_eq_true.mpr fun x _ => rfl
  · have : t = !seen.elem a := by
      rw [notIn_dN] at ht
      cases t with
      | true => rw [ht.mp rfl]; rfl
      | false =>
        cases e : seen.elem a with
        | true => rfl
        | false => exact absurd (ht.mpr e) (by simp)
    rw [this]; exact h
theorem look_ne {x y : Str} {d e : D} {ρ : List (Str × D)} (hxy : (y == x) = false) (h : ρ.lookup y = some d) : (setV x e ρ).lookup y = some d := by
  rw [lookup_setV, hxy]; exact h
theorem look_eq {x : Str} {e : D} {ρ : List (Str × D)} : (setV x e ρ).lookup x = some e := by
  rw [lookup_setV]; simp
set_option tactic.hygienic true in
theorem sAugO {T : Tab} {n : Nat} {sc : Scope} {Q : Fl → Ab → Prop} {p py : Pos} {x y : Str} {xs : List D} {pl : Bool} {ρ : List (Str × D)} {v : Expr} {a : Int} (hs : (storable sc y && !(x == y)) = true) (hl : ρ.lookup y = some (.int a)) (h : wpE T n sc ρ v fun d => match d with | .int b => Q .next ⟨setV y (.int (a + b)) ρ, some (x, xs), pl⟩ | _ => False) :
    wpS T (n + 1) sc (.AugAssign (.Name y py) .Add v p) ⟨ρ, some (x, xs), pl⟩ Q := by
  simp only [Bool.and_eq_true, Bool.not_eq_true'] at hs
  refine sAug hs.1 hl (cast (congrArg (wpE T n sc ρ v) ?_) h)
  funext d
  cases d <;> first | rfl | skip
  rename_i b
  show Q .next ⟨_, _, _⟩ = Q .next (Ab.set y (.int (a + b)) ⟨ρ, some (x, xs), pl⟩)
  unfold Ab.set
  simp only [hs.2]
  rfl
noncomputable def sRings : Spec := fun ds Q => ∃ l : Nat → Nat, ds = [.list ((List.range 16).map fun i => dN (l i))] ∧ (∀ i, i < 16 → l i < 16) ∧ Q (.int (ringsN l))
theorem ifThen {T : Tab} {n : Nat} {sc : Scope} {c : Bool} {b : List Stmt} {σ : Ab} {Q : Fl → Ab → Prop} {P : Ab → Prop} (hK : ∀ σ', P σ' → Q .next σ') (h1 : c = true → ∀ Q' : Fl → Ab → Prop, (∀ σ', P σ' → Q' .next σ') → wpSs T (n + 1) sc b σ Q') (h2 : c = false → P σ) :
    (bif c then wpSs T (n + 1) sc b σ Q else wpSs T (n + 1) sc [] σ Q) := by
  cases c with
  | true => exact h1 rfl Q hK
  | false => exact ssNil (T := T) (n := n) (sc := sc) (hK σ (h2 rfl))
set_option maxHeartbeats 4000000 in
theorem b_rings (T : Tab) (P : Params) (h1 : T.F (Str.ofString "range") = none) : Body T 60 205 P [Str.ofString "led"] sRings := by
  rintro ds Q ⟨l, rfl, hl, h⟩
  refine ⟨rfl, ?_⟩
  dsimp only [List.zip, List.zipWith]
  conv => arg 3; whnf
  conv => arg 4; whnf
  generalize hR : D.list ((List.range 16).map fun i => dN (l i)) = R
  repeat walk_at "e"
  with_reducible refine itIs range16 ?_
  have n1 : (Str.ofString "rings" == Str.ofString "state") = false := by kernel_rfl!
  have n2 : (Str.ofString "led" == Str.ofString "state") = false := by kernel_rfl!
  have n3 : (Str.ofString "led" == Str.ofString "rings") = false := by kernel_rfl!
  have n4 : (Str.ofString "state" == Str.ofString "rings") = false := by kernel_rfl!
  have n5 : (Str.ofString "rings" == Str.ofString "at") = false := by kernel_rfl!
  have n6 : (Str.ofString "led" == Str.ofString "at") = false := by kernel_rfl!
  have n7 : (Str.ofString "state" == Str.ofString "seen") = false := by kernel_rfl!
  have n8 : (Str.ofString "at" == Str.ofString "seen") = false := by kernel_rfl!
  have n9 : (Str.ofString "rings" == Str.ofString "seen") = false := by kernel_rfl!
  refine forP_inv (fun items σ => ∃ (sts : List Nat) (ρ : List (Str × D)) (seen : List Nat) (k : Nat), items = sts.map dN ∧ (∀ s ∈ sts, s < 16) ∧ σ = ⟨ρ, some (Str.ofString "seen", seen.map dN), true⟩ ∧ ρ.lookup (Str.ofString "rings") = some (dN k) ∧ ρ.lookup (Str.ofString "led") = some R ∧
    seen.length + freeN seen ≤ 16 ∧ Q (dN (sts.foldl (turnR l) (k, seen)).1)) ?_ ?_ _ _ ⟨List.range 16, _, [], 0, rfl, fun s hs => List.mem_range.mp hs, rfl, by walk_at "r", by walk_at "r", by decide +kernel, h⟩
  · rintro σ ⟨sts, ρ, seen, k, e, hs, rfl, hk, hr, hz, hq⟩
    cases sts with
    | cons _ _ => cases e
    | nil =>
      repeat walk_at "e"
      refine eName (look_ne n9 hk) ?_
      exact hq
  · rintro d r σ ⟨sts, ρ, seen, k, e, hs, rfl, hk, hr, hz, hq⟩
    cases sts with
    | nil => cases e
    | cons st sts =>
      cases e
      have hst := hs st (.head _)
      refine ⟨_, bindNameO (by walk_at "r") rfl, fun K hK => ?_⟩
      have hk1 := look_ne (e := dN st) n1 hk
      have hr1 := look_ne (e := dN st) n2 hr
      have hs1 : (setV (Str.ofString "state") (dN st) ρ).lookup (Str.ofString "state") = some (dN st) := look_eq
      generalize setV (Str.ofString "state") (dN st) ρ = ρ1 at hk1 hr1 hs1 ⊢
      have hturn : List.foldl (turnR l) (k, seen) (st :: sts) = List.foldl (turnR l) ((bif seen.elem st then k else k + 1), chase l 16 st seen) sts := rfl
      rw [hturn] at hq
      clear hturn hk hr
      repeat walk_at "e"
      refine eName (look_ne n7 hs1) ?_
      refine eName look_eq ?_
      refine cNotInN ?_
      refine ifThen (P := fun σ' => ∃ (kk : Nat) (ρ2 : List (Str × D)), σ' = ⟨ρ2, some (Str.ofString "seen", seen.map dN), true⟩ ∧ ρ2.lookup (Str.ofString "rings") = some (dN kk) ∧ ρ2.lookup (Str.ofString "led") = some R ∧ ρ2.lookup (Str.ofString "state") = some (dN st) ∧ Q (dN (sts.foldl (turnR l) (kk, chase l 16 st seen)).1)) (fun σ' hP => ?_) (fun hc Q' hQ' => ?_) fun hc => ?_
      · obtain ⟨kk, ρ2, rfl, hk2, hr2, hs2, hq⟩ := hP
        clear hk1 hr1 hs1
        repeat walk_at "e"
        refine eName hs2 ?_
        rintro ρ3 rfl
        have hk3 := look_ne (e := dN st) n5 hk2
        have hr3 := look_ne (e := dN st) n6 hr2
        have ha3 : (setV (Str.ofString "at") (dN st) ρ2).lookup (Str.ofString "at") = some (dN st) := look_eq
        generalize setV (Str.ofString "at") (dN st) ρ2 = ρ3 at hk3 hr3 ha3 ⊢
        clear hk2 hr2 hs2
        repeat walk_at "e"
        refine wWhile (fun m σ => ∃ (sn : List Nat) (a f : Nat) (ρ' : List (Str × D)), freeN sn = m ∧ a < 16 ∧ freeN sn ≤ f ∧ σ = ⟨ρ', some (Str.ofString "seen", sn.map dN), true⟩ ∧ ρ'.lookup (Str.ofString "rings") = some (dN kk) ∧ ρ'.lookup (Str.ofString "led") = some R ∧ ρ'.lookup (Str.ofString "at") = some (dN a) ∧
          sn.length + freeN sn ≤ 16 ∧ Q (dN (List.foldl (turnR l) (kk, chase l f a sn) sts).1)) 12 ?_ (freeN seen) _ _ (by (first | lia | omega)) ⟨seen, st, 16, ρ3, rfl, hst, by (first | lia | omega), rfl, hk3, hr3, ha3, hz, hq⟩
        clear hk3 hr3 ha3 hz hq ρ3
        rintro m σ ⟨sn, a, f, ρ3, rfl, ha, hf, rfl, hk3, hr3, ha3, hz, hq⟩ n hn K2 hK2
        obtain ⟨n, rfl⟩ : ∃ k, n = k + 12 := ⟨n - 12, by (first | lia | omega)⟩
        repeat walk_at "e"
        refine eName (look_ne n8 ha3) ?_
        refine eName look_eq ?_
        refine cNotInN ?_
        refine condB (fun hc => ?_) fun hc => ?_
        · have hc : sn.elem a = false := by simpa using hc
          have hfa := free_app ha hc
          obtain ⟨f, rfl⟩ : ∃ g, f = g + 1 := ⟨f - 1, by (first | lia | omega)⟩
          have hch : chase l (f + 1) a sn = chase l f (l a) (sn ++ [a]) := by unfold chase; rw [hc]; cases f <;> rfl
          rw [hch] at hq
          have hsz : (sn.map dN).length < sizeLine := by rw [List.length_map]; exact Nat.lt_of_le_of_lt (by (first | lia | omega) : sn.length ≤ 16) (by decide)
          have e1 : ((List.range 16).map fun i => dN (l i))[a]? = some (dN (l a)) := by rw [List.getElem?_map, List.getElem?_range ha]; rfl
          have e2 : a < 2 ^ 62 := by (first | lia | omega)
          repeat walk_at "e"
          refine sApp (by walk_at "r") hsz ?_
          refine eName (look_ne n8 ha3) ?_
          repeat walk_at "e"
          refine eName hr3 ?_
          refine eName ha3 ?_
          subst hR
          refine gAt a rfl e2 e1 ?_
          rintro ρ4 rfl
          repeat walk_at "e"
          refine hK2 _ _ hfa ⟨sn ++ [a], l a, f, _, rfl, hl a ha, by (first | lia | omega), by rw [List.map_append]; rfl, look_ne n5 hk3, look_ne n6 hr3, look_eq, by rw [List.length_append, List.length_singleton]; (first | lia | omega), hq⟩
        · have hc : sn.elem a = true := by simpa using hc
          have hch : chase l f a sn = sn := by cases f <;> (unfold chase; first | rfl | rw [hc]; rfl)
          rw [hch] at hq
          repeat walk_at "e"
          exact hK _ ⟨sts, ρ3, sn, kk, rfl, fun s h => hs s (.tail _ h), rfl, hk3, hr3, hz, hq⟩
      · have hc : seen.elem st = false := by simpa using hc
        rw [hc] at hq
        repeat walk_at "e"
        refine sAugO (by walk_at "r") hk1 ?_
        repeat walk_at "e"
        exact hQ' _ ⟨k + 1, _, rfl, look_eq, look_ne (e := .int ((k : Int) + 1)) n3 hr1, look_ne (e := .int ((k : Int) + 1)) n4 hs1, hq⟩
      · have hc : seen.elem st = true := by simpa using hc
        rw [hc] at hq
        exact ⟨k, _, rfl, hk1, hr1, hs1, hq⟩
end
section
set_option tactic.hygienic false
/-- a gate as it is written -/
noncomputable abbrev dG (g : List Nat) : D := .list (g.map dN)
noncomputable def tape (gs : List (List Nat)) : List Nat := gs.flatMap fun g => g.length :: g
noncomputable def wU : Str := Str.ofString "not enough data in stream to read uint1"
noncomputable def fmtS : Str := Str.ofString "expected %d bytes in a bytes1, but only %d remain"
noncomputable def wB : Nat → Str
  | 1 => Str.ofString "expected 1 bytes in a bytes1, but only 0 remain"
  | 2 => Str.ofString "expected 2 bytes in a bytes1, but only 1 remain"
  | 3 => Str.ofString "expected 3 bytes in a bytes1, but only 2 remain"
  | _ => Str.ofString "expected 4 bytes in a bytes1, but only 3 remain"
/-- what is read of a tape -/
noncomputable abbrev readAll (gs : List (List Nat)) : D := .tuple [.list (gs.map dB), .tuple [.str wU]]
noncomputable abbrev readCut (gs : List (List Nat)) : D := .tuple [.list (gs.dropLast.map dB), .tuple [.str (wB (gs.getLastD []).length)]]
noncomputable abbrev told (gs : List (List Nat)) : D := .list [readAll gs, readCut gs]
theorem intsN (g : List Nat) : intsOf? (g.map dN) = some (g.map fun n : Nat => (n : Int)) := by
  induction g with
  | nil => rfl
  | cons a r ih =>
    show (intsOf? (r.map dN)).map (fun ns => (a : Int) :: ns) = _
    rw [ih]; rfl
noncomputable def fB : D → D
  | .list xs => (intsOf? xs).elim .none fun ns => .bytes (byteArr ns)
  | _ => .none
theorem fB_g (g : List Nat) : fB (dG g) = dB g := by
  show (intsOf? (g.map dN)).elim D.none (fun ns => D.bytes (byteArr ns)) = _
  rw [intsN]
  show D.bytes (byteArr _) = _
  rw [bOf_arr]
theorem rBytesN {g : List Nat} {Q : D → Prop} (hg : ∀ n ∈ g, n < 256) (hl : g.length ≤ 1000) (h : Q (dB g)) : biP (Str.ofString "bytes") [dG g] Q := by
  refine rBytes (by rw [List.length_map]; exact Nat.le_trans hl (by decide)) (intsN g) (fun n hn => ?_) (by rw [bOf_arr]; exact h)
  obtain ⟨m, hm, rfl⟩ := List.mem_map.mp hn
  have := hg m hm
  (first | lia | omega)
theorem gate_256 {g : List Nat} (h : GateIn g) : ∀ n ∈ g, n < 256 := by
  obtain ⟨t, q, rfl, ht, hq, h8⟩ := h
  intro n hn
  rcases List.mem_cons.mp hn with rfl | hn
  · (first | lia | omega)
  · have := h8 n hn; (first | lia | omega)
theorem gate_len {g : List Nat} (h : GateIn g) : 1 ≤ g.length ∧ g.length ≤ 4 := by
  obtain ⟨t, q, rfl, ht, hq, h8⟩ := h
  rw [List.length_cons]; (first | lia | omega)
theorem smAll_self {f : D → D → Bool} : ∀ {xs : List D}, (∀ x ∈ xs, f x x = true) → smAll f xs xs = true
  | [], _ => rfl
  | x :: xs, h => by
    show (f x x && smAll f xs xs) = true
    rw [h x (.head _), smAll_self fun y hy => h y (.tail _ hy)]; rfl
theorem rLenN {xs : List D} {Q : D → Prop} (n : Nat) (hn : xs.length = n) (hl : n ≤ 1000) (h : Q (dN n)) : biP (Str.ofString "len") [.list xs] Q :=
  rLen (n := n) (congrArg some hn) (Nat.le_trans hl (by decide)) h
theorem slInit {xs : List D} {Q : D → Prop} (hl : xs.length ≤ 1000) (h : Q (.list xs.dropLast)) : sliceP (.list xs) none (some (.int (-1))) none Q := by
  refine slList rfl rfl (Nat.le_trans hl (by decide)) ?_
  have : cutL none (some (-1)) xs = xs.dropLast := by
    show (xs.drop 0).take (clipAt xs.length (-1) - 0) = _
    rw [List.drop_zero, Nat.sub_zero, List.dropLast_eq_take]
    refine congrArg (fun k => xs.take k) ?_
    unfold clipAt
    rw [if_pos (by decide)]
    omega
  rw [this]; exact h
noncomputable def sToldIs : Spec := fun ds Q => ∃ gs : List (List Nat), gs.length = 6 ∧ (∀ g ∈ gs, GateIn g) ∧ ds = [told gs, .list (gs.map dG)] ∧ Q (.bool true)
set_option maxHeartbeats 4000000 in
theorem b_toldIs (T : Tab) (P : Params) (h1 : T.F (Str.ofString "bytes") = none) (h2 : T.F (Str.ofString "len") = none) (h3 : T.F (Str.ofString "isinstance") = none) (hM : ∀ n : Nat, 1 ≤ n → n ≤ 4 → T.M fmtS [.int n, .int ((n : Int) - 1)] = some (wB n)) : Body T 20 183 P [Str.ofString "told", Str.ofString "gates"] sToldIs := by
  rintro ds Q ⟨gs, hn, hg, rfl, h⟩
  refine ⟨rfl, ?_⟩
  dsimp only [List.zip, List.zipWith]
  conv => arg 3; whnf
  conv => arg 4; whnf
  repeat walk_at "e"
  with_reducible refine itIs rfl ⟨by rw [List.length_map, hn]; decide, ?_⟩
  refine comp1_map fB _ _ _ (fun d hd Q' hq => ?_) fun ρ' hρ' => ?_
  · obtain ⟨g, hgm, rfl⟩ := List.mem_map.mp hd
    rw [fB_g] at hq
    repeat walk_at "e"
    exact rBytesN (gate_256 (hg g hgm)) (by have := gate_len (hg g hgm); (first | lia | omega)) hq
  · have e1 : [] ++ List.map fB (List.map dG gs) = gs.map dB := by
      rw [List.nil_append, List.map_map]
      exact List.map_congr_left fun g _ => fB_g g
    rw [e1]
    clear e1 hρ'
    obtain ⟨a1, a2, a3, a4, a5, a6, rfl⟩ : ∃ a1 a2 a3 a4 a5 a6, gs = [a1, a2, a3, a4, a5, a6] := by
      match gs, hn with
      | [a1, a2, a3, a4, a5, a6], _ => exact ⟨a1, a2, a3, a4, a5, a6, rfl⟩
    repeat walk_at "e"
    have hl6 := gate_len (hg a6 (by simp))
    have hl6' : a6.length ≤ 1000 := by (first | lia | omega)
    have hlm : (a6.map dN).length = a6.length := List.length_map ..
    have hMM := hM a6.length hl6.1 hl6.2
    refine rLenN a6.length hlm hl6' ?_
    repeat walk_at "e"
    refine bFmt hMM ?_
    repeat walk_at "e"
    refine bList (Nat.le_of_ble_eq_true (by rfl)) ?_
    with_reducible refine itIs rfl ⟨Nat.le_trans (show _ ≤ 11 from by simp) (by decide), ?_⟩
    refine comp1_filt (fun _ => false) id _ _ _ (fun d hd Q' hq => ?_) (fun d hd hq => by cases hq) fun ρ' => ?_
    · have hd' : ∃ g, d = dB g := by
        have : d ∈ ([a1, a2, a3, a4, a5, a6] ++ [a1, a2, a3, a4, a5]).map dB := hd
        obtain ⟨g, _, e⟩ := List.mem_map.mp this
        exact ⟨g, e.symm⟩
      obtain ⟨g, rfl⟩ := hd'
      repeat walk_at "e"
      refine eIsi (by walk_at "r") h3 (by walk_at "r") ?_
      repeat walk_at "e"
      refine IsiP.bytes _ ?_
      repeat walk_at "e"
      exact hq
    · have e2 : ∀ L : List D, [] ++ List.map id (List.filter (fun x => false) L) = [] := fun L => by simp
      rw [e2]
      refine trList (Nat.zero_le _) ?_
      refine condFr rfl ?_
      repeat walk_at "e"
      refine slInit (Nat.le_trans (show _ ≤ 6 from by simp) (by decide)) ?_
      repeat walk_at "e"
      refine cEqL (by rfl) fun t ht => ?_
      obtain rfl : t = true := ht.mpr rfl
      repeat walk_at "e"
      exact h
end
section
set_option tactic.hygienic false
theorem sSetX {T : Tab} {n : Nat} {sc : Scope} {Q : Fl → Ab → Prop} {p py : Pos} {x : Str} {xs : List D} {pl : Bool} {ρ : List (Str × D)} {v : Expr} (hs : (storable sc x && okVal v && !(swaps sc x py v) && usesE x 20 v) = true)
    (h : wpE T n sc (setV x (.list xs) ρ) v fun d => bif imm d then Q .next (Ab.set x d ⟨ρ, some (x, xs), pl⟩) else Q .next ⟨setV x d ρ, none, true⟩) : wpS T (n + 1) sc (.Assign [.Name x py] v p) ⟨ρ, some (x, xs), pl⟩ Q := by
  simp only [Bool.and_eq_true, Bool.not_eq_true'] at hs
  obtain ⟨⟨⟨h1, h2⟩, h3⟩, h4⟩ := hs
  exact SP.set _ _ _ _ h1 h2 h3 (wpX_u h4 (cast (congrArg (wpE T n sc (setV x (.list xs) ρ) v) (funext fun d => congrArg (fun z => bif imm d then Q .next (Ab.set x d ⟨ρ, some (x, xs), pl⟩) else Q .next ⟨z, none, true⟩) (setV_setV x d (.list xs) ρ).symm)) h))
noncomputable def sReadAll : Spec := fun ds Q => ∃ gs : List (List Nat), 1 ≤ gs.length ∧ gs.length ≤ 6 ∧ (∀ g ∈ gs, GateIn g) ∧ ((ds = [.bytes (bOf (tape gs))] ∧ Q (readAll gs)) ∨ (ds = [.bytes (bOf (tape gs).dropLast)] ∧ Q (readCut gs)))
noncomputable def sTaped : Spec := fun ds Q => ∃ gs : List (List Nat), gs.length = 6 ∧ (∀ g ∈ gs, GateIn g) ∧ ds = [.list (gs.map dG)] ∧ Q (told gs)
theorem dList {T : Tab} {Q : D → Prop} {x y : List Nat} (hl : x.length + y.length ≤ 1000) (h : Q (.list ((x ++ y).map dN))) : binP T .Add (.list (x.map dN)) (.list (y.map dN)) Q :=
  bList (by rw [List.length_map, List.length_map]; exact Nat.le_trans hl (by decide)) (by rw [← List.map_append]; exact h)
theorem tape_256 {gs : List (List Nat)} (h : ∀ g ∈ gs, GateIn g) : ∀ n ∈ tape gs, n < 256 := by
  intro n hn
  obtain ⟨g, hg, hn⟩ := List.mem_flatMap.mp hn
  rcases List.mem_cons.mp hn with rfl | hn
  · have := gate_len (h g hg); (first | lia | omega)
  · exact gate_256 (h g hg) n hn
theorem tape_len : ∀ {gs : List (List Nat)}, (∀ g ∈ gs, GateIn g) → (tape gs).length ≤ 5 * gs.length
  | [], _ => Nat.le_refl _
  | g :: gs, h => by
    have := tape_len fun g hg => h g (.tail _ hg)
    have := gate_len (h g (.head _))
    unfold tape at *
    rw [List.flatMap_cons, List.length_append, List.length_cons, List.length_cons]
    (first | lia | omega)
end
section
set_option tactic.hygienic false
theorem ba_two (x y : Int) : Builtin.bitAnd x (2 * y) = 2 * Builtin.bitAnd (x / 2) y := by
  rw [kbt_halves, if_neg (by (first | lia | omega)), Int.mul_ediv_cancel_left y (by decide)]
  (first | lia | omega)
theorem ba_odd (x y : Int) : Builtin.bitAnd x (2 * y + 1) = 2 * Builtin.bitAnd (x / 2) y + x % 2 := by
  rw [kbt_halves, show (2 * y + 1) / 2 = y from by (first | lia | omega)]
  rcases (by (first | lia | omega) : x % 2 = 0 ∨ x % 2 = 1) with h | h
  · rw [if_neg (by (first | lia | omega)), h]
  · rw [if_pos (by (first | lia | omega)), h]
theorem ba_4095 (x : Int) : Builtin.bitAnd x 4095 = x % 4096 := kbt_mask x 12
theorem ba_15 (x : Int) : Builtin.bitAnd x 15 = x % 16 := kbt_mask x 4
theorem ba_shl : ∀ (k : Nat) (x y : Int), Builtin.bitAnd x (2 ^ k * y) = 2 ^ k * Builtin.bitAnd (x / 2 ^ k) y
  | 0, x, y => by rw [Int.pow_zero, Int.one_mul, Int.one_mul, Int.ediv_one]
  | k + 1, x, y => by rw [Int.pow_succ, Int.mul_comm (2 ^ k) 2, Int.mul_assoc, ba_two, ba_shl k, Int.ediv_ediv_of_nonneg (by decide), Int.mul_assoc]
theorem ba_61440 (x : Int) : Builtin.bitAnd x 61440 = 4096 * (x / 4096 % 16) := by
  have := ba_shl 12 x 15
  rw [ba_15] at this
  exact this
theorem ba_p (x : Int) (k : Nat) (p : Int) (hp : p = 2 ^ k) : Builtin.bitAnd x p = (x / p % 2) * p := by
  subst hp; exact kbt_bit x k
noncomputable def sFilemode : Spec := fun ds Q => ∃ m : Nat, ds = [.int m] ∧ Q (.str (strOf (rowN (m / 4096 % 16) (m % 4096))))
noncomputable def sListed : Spec := fun ds Q => ∃ m o st : Nat, o < 3 ∧ st < 16 ∧ ds = [.int m, .int o, .int st] ∧ Q (.str (strOf (rowD m o st)))
theorem md (m a b c : Nat) : m % (a * (b * c)) / a % b = m / a % b := by rw [Nat.mod_mul_right_div_self, Nat.mod_mul_right_mod]
theorem gt3 (y : Nat) : (3 < y % 8) = (y / 4 % 2 = 1) := propext ⟨fun _ => by (first | lia | omega), fun _ => by (first | lia | omega)⟩
/-- four rights are set -/
theorem set4 (p0 p1 p2 p3 : Int) (X0 X1 X2 X3 X4 : Int) (st : Nat)
    (h1 : X0 - Builtin.bitAnd X0 p0 + p0 * Int.fmod ((st / 2 ^ 0 : Nat) : Int) 2 = X1)
    (h2 : X1 - Builtin.bitAnd X1 p1 + p1 * Int.fmod ((st / 2 ^ 1 : Nat) : Int) 2 = X2)
    (h3 : X2 - Builtin.bitAnd X2 p2 + p2 * Int.fmod ((st / 2 ^ 2 : Nat) : Int) 2 = X3)
    (h4 : X3 - Builtin.bitAnd X3 p3 + p3 * Int.fmod ((st / 2 ^ 3 : Nat) : Int) 2 = X4)
    (k0 k1 k2 k3 : Nat) (e0 : p0 = 2 ^ k0) (e1 : p1 = 2 ^ k1) (e2 : p2 = 2 ^ k2) (e3 : p3 = 2 ^ k3) :
    X1 = X0 - (X0 / p0 % 2) * p0 + p0 * ((st % 2 : Nat) : Int) ∧ X2 = X1 - (X1 / p1 % 2) * p1 + p1 * ((st / 2 % 2 : Nat) : Int) ∧ X3 = X2 - (X2 / p2 % 2) * p2 + p2 * ((st / 4 % 2 : Nat) : Int) ∧ X4 = X3 - (X3 / p3 % 2) * p3 + p3 * ((st / 8 % 2 : Nat) : Int) := by
  rw [ba_p _ _ _ e0, show Int.fmod ((st / 2 ^ 0 : Nat) : Int) 2 = ((st / 2 ^ 0 % 2 : Nat) : Int) from fmN _ 2] at h1
  rw [ba_p _ _ _ e1, show Int.fmod ((st / 2 ^ 1 : Nat) : Int) 2 = ((st / 2 ^ 1 % 2 : Nat) : Int) from fmN _ 2] at h2
  rw [ba_p _ _ _ e2, show Int.fmod ((st / 2 ^ 2 : Nat) : Int) 2 = ((st / 2 ^ 2 % 2 : Nat) : Int) from fmN _ 2] at h3
  rw [ba_p _ _ _ e3, show Int.fmod ((st / 2 ^ 3 : Nat) : Int) 2 = ((st / 2 ^ 3 % 2 : Nat) : Int) from fmN _ 2] at h4
  rw [show 2 ^ 0 = 1 from rfl, Nat.div_one] at h1
  exact ⟨h1.symm, h2.symm, h3.symm, h4.symm⟩
theorem row_eq {k r r' o st : Nat} (ho : o < 3) (hst : st < 16) (h2 : r' / 64 % 8 = if o = 0 then st % 8 else r / 64 % 8) (h2' : r' / 2048 % 2 = if o = 0 then st / 8 else r / 2048 % 2)
    (h1 : r' / 8 % 8 = if o = 1 then st % 8 else r / 8 % 8) (h1' : r' / 1024 % 2 = if o = 1 then st / 8 else r / 1024 % 2)
    (h0 : r' / 1 % 8 = if o = 2 then st % 8 else r / 1 % 8) (h0' : r' / 512 % 2 = if o = 2 then st / 8 else r / 512 % 2) :
    rowN k r' = (rowN k r).take (1 + 3 * o) ++ sgnS o st ++ (rowN k r).drop (4 + 3 * o) := by
  have hs : ∀ o st, st < 16 → sgnD o (st % 8) (st / 8) = sgnS o st := by
    intro o st h
    unfold sgnD sgnS
    have e1 := gt3 st
    have e2 : st % 8 / 2 % 2 = st / 2 % 2 := md st 2 2 2
    have e3 : st % 8 % 2 = st % 2 := Nat.mod_mul_right_mod st 2 4
    simp only [e1, e2, e3]
  have hc := lt3 ho
  rcases hc with rfl | rfl | rfl
  · simp only [if_true, show ¬ ((0 : Nat) = 1) from by decide, show ¬ ((0 : Nat) = 2) from by decide, if_false] at h2 h2' h1 h1' h0 h0'
    unfold rowN
    rw [h2, h2', h1, h1', h0, h0', hs 0 st hst]
    rfl
  · simp only [if_true, show ¬ ((1 : Nat) = 0) from by decide, show ¬ ((1 : Nat) = 2) from by decide, if_false] at h2 h2' h1 h1' h0 h0'
    unfold rowN
    rw [h2, h2', h1, h1', h0, h0', hs 1 st hst]
    rfl
  · simp only [if_true, show ¬ ((2 : Nat) = 0) from by decide, show ¬ ((2 : Nat) = 1) from by decide, if_false] at h2 h2' h1 h1' h0 h0'
    unfold rowN
    rw [h2, h2', h1, h1', h0, h0', hs 2 st hst]
    rfl
theorem e9L (m : Nat) : ((4096 * ((m : Int) / 4096 % 16)) = ((4096 * (m / 4096 % 16) : Nat) : Int)) := by push_cast; rfl
theorem e10L (m : Nat) : (m : Int) % 4096 = ((m % 4096 : Nat) : Int) := by push_cast; rfl
/-- a bit is set -/
noncomputable def sb (k b x : Nat) : Nat := x - (x / 2 ^ k % 2) * 2 ^ k + 2 ^ k * b
theorem sb_eq (k b x : Nat) : sb k b x = 2 ^ k * (2 * (x / 2 ^ k / 2) + b) + x % 2 ^ k := by
  unfold sb
  have h1 := Nat.div_add_mod x (2 ^ k)
  have h2 := Nat.div_add_mod (x / 2 ^ k) 2
  generalize x % 2 ^ k = r at *
  generalize hp : 2 ^ k = p at *
  generalize hq : x / p = q at *
  generalize q / 2 = q2 at *
  generalize q % 2 = q1 at *
  subst h1
  rw [← h2, Nat.mul_add, Nat.mul_add, Nat.mul_comm q1 p]
  generalize p * (2 * q2) = a
  generalize p * q1 = c
  generalize p * b = d
  (first | lia | omega)
theorem sb_bit {b : Nat} (hb : b < 2) (k x j : Nat) : sb k b x / 2 ^ j % 2 = if j = k then b else x / 2 ^ j % 2 := by
  rw [sb_eq]
  have hr : x % 2 ^ k < 2 ^ k := Nat.mod_lt _ (Nat.two_pow_pos k)
  have hx : 2 ^ k * (x / 2 ^ k) + x % 2 ^ k = x := Nat.div_add_mod x (2 ^ k)
  generalize x % 2 ^ k = r at *
  generalize x / 2 ^ k = q at *
  subst hx
  rcases Nat.lt_trichotomy j k with h | h | h
  · rw [if_neg (by omega)]
    obtain ⟨d, rfl⟩ : ∃ d, k = j + 1 + d := ⟨k - (j + 1), by omega⟩
    have e : ∀ y : Nat, (2 ^ (j + 1 + d) * y + r) / 2 ^ j % 2 = r / 2 ^ j % 2 := fun y => by
      rw [Nat.pow_add, Nat.pow_succ, Nat.mul_assoc, Nat.mul_assoc, Nat.mul_add_div (Nat.two_pow_pos j), Nat.mul_add_mod]
    rw [e, e]
  · subst h
    rw [if_pos rfl, Nat.mul_add_div (Nat.two_pow_pos j), Nat.div_eq_of_lt hr, Nat.add_zero, Nat.mul_add_mod, Nat.mod_eq_of_lt hb]
  · rw [if_neg (by omega)]
    obtain ⟨d, rfl⟩ : ∃ d, j = k + (d + 1) := ⟨j - k - 1, by omega⟩
    rw [Nat.pow_add, ← Nat.div_div_eq_div_mul, ← Nat.div_div_eq_div_mul, Nat.mul_add_div (Nat.two_pow_pos k), Nat.mul_add_div (Nat.two_pow_pos k), Nat.div_eq_of_lt hr, Nat.add_zero, Nat.add_zero, Nat.pow_succ, Nat.mul_comm (2 ^ d) 2, ← Nat.div_div_eq_div_mul, ← Nat.div_div_eq_div_mul, Nat.mul_add_div (by decide), Nat.div_eq_of_lt hb, Nat.add_zero]
    exact rfl
theorem sb_lt {k b x : Nat} (hb : b < 2) (hk : k < 12) (hx : x < 4096) : sb k b x < 4096 := by
  refine Nat.lt_pow_two_of_testBit (n := 12) _ fun i hi => ?_
  rw [Nat.testBit_eq_decide_div_mod_eq, sb_bit hb, if_neg (by (first | lia | omega)), Nat.div_eq_of_lt (Nat.lt_of_lt_of_le hx (Nat.pow_le_pow_right (by decide : 0 < 2) hi))]
  rfl
theorem sbI {X p : Int} {k b x : Nat} (hX : X = x) (hp : p = 2 ^ k) : X - (X / p % 2) * p + p * (b : Int) = ((sb k b x : Nat) : Int) := by
  subst hX hp
  have e : x / 2 ^ k % 2 * 2 ^ k ≤ x := Nat.le_trans (Nat.mul_le_mul_right _ (Nat.mod_le _ _)) (Nat.div_mul_le_self _ _)
  unfold sb
  rw [Int.natCast_add, Int.natCast_sub e]
  simp only [Int.natCast_mul, Int.natCast_emod, Int.natCast_ediv, Int.natCast_pow, Int.cast_ofNat_Int]
theorem dig3 (x i : Nat) : x / 2 ^ i % 8 = x / 2 ^ i % 2 + 2 * (x / 2 ^ (i + 1) % 2) + 4 * (x / 2 ^ (i + 2) % 2) := by
  rw [Nat.pow_add, Nat.pow_add, ← Nat.div_div_eq_div_mul, ← Nat.div_div_eq_div_mul]
  generalize x / 2 ^ i = y
  rw [show 8 = 2 * (2 * 2) from rfl, Nat.mod_mul, Nat.mod_mul, Nat.mul_add, ← Nat.add_assoc, ← Nat.mul_assoc, Nat.div_div_eq_div_mul]
noncomputable def sb4 (k0 k1 k2 k3 st x : Nat) : Nat := sb k3 (st / 8 % 2) (sb k2 (st / 4 % 2) (sb k1 (st / 2 % 2) (sb k0 (st % 2) x)))
theorem sb4_bit (k0 k1 k2 k3 st x j : Nat) : sb4 k0 k1 k2 k3 st x / 2 ^ j % 2 = if j = k3 then st / 8 % 2 else if j = k2 then st / 4 % 2 else if j = k1 then st / 2 % 2 else if j = k0 then st % 2 else x / 2 ^ j % 2 := by
  have h2 : ∀ n : Nat, n % 2 < 2 := fun n => Nat.mod_lt _ (by decide)
  unfold sb4
  rw [sb_bit (h2 _), sb_bit (h2 _), sb_bit (h2 _), sb_bit (h2 _)]
theorem sb4_lt {k0 k1 k2 k3 st x : Nat} (h0 : k0 < 12) (h1 : k1 < 12) (h2 : k2 < 12) (h3 : k3 < 12) (hx : x < 4096) : sb4 k0 k1 k2 k3 st x < 4096 := by
  have h : ∀ n : Nat, n % 2 < 2 := fun n => Nat.mod_lt _ (by decide)
  exact sb_lt (h _) h3 (sb_lt (h _) h2 (sb_lt (h _) h1 (sb_lt (h _) h0 hx)))
theorem st_dig {st : Nat} (hst : st < 16) : st % 8 = st % 2 + 2 * (st / 2 % 2) + 4 * (st / 4 % 2) ∧ st / 8 % 2 = st / 8 := ⟨by
  have := dig3 st 0
  simp only [Nat.zero_add, Nat.reducePow, Nat.div_one] at this
  exact this, Nat.mod_eq_of_lt (Nat.div_lt_of_lt_mul hst)⟩
theorem tops {a r : Nat} (h : r < 4096) : (4096 * (a % 16) + r) / 4096 % 16 = a % 16 ∧ (4096 * (a % 16) + r) % 4096 = r := ⟨by rw [Nat.mul_add_div (by decide), Nat.div_eq_of_lt h, Nat.add_zero, Nat.mod_mod], by rw [Nat.mul_add_mod, Nat.mod_eq_of_lt h]⟩
/-- what is left when four rights are set -/
theorem set4b {k0 k1 k2 k3 m st : Nat} {p0 p1 p2 p3 X0 X1 X2 X3 X4 : Int} (h0 : X0 = (m : Int) % 4096) (g1 : X1 = X0 - (X0 / p0 % 2) * p0 + p0 * ((st % 2 : Nat) : Int)) (g2 : X2 = X1 - (X1 / p1 % 2) * p1 + p1 * ((st / 2 % 2 : Nat) : Int)) (g3 : X3 = X2 - (X2 / p2 % 2) * p2 + p2 * ((st / 4 % 2 : Nat) : Int)) (g4 : X4 = X3 - (X3 / p3 % 2) * p3 + p3 * ((st / 8 % 2 : Nat) : Int))
    (e0 : p0 = 2 ^ k0) (e1 : p1 = 2 ^ k1) (e2 : p2 = 2 ^ k2) (e3 : p3 = 2 ^ k3) : X4 = ((sb4 k0 k1 k2 k3 st (m % 4096) : Nat) : Int) := by
  rw [e10L] at h0
  rw [sbI h0 e0] at g1
  rw [sbI g1 e1] at g2
  rw [sbI g2 e2] at g3
  rw [sbI g3 e3] at g4
  exact g4
theorem row_0 {k st x : Nat} (hst : st < 16) : rowN k (sb4 6 7 8 11 st x) = (rowN k x).take (1 + 3 * 0) ++ sgnS 0 st ++ (rowN k x).drop (4 + 3 * 0) := by
  obtain ⟨d1, d2⟩ := st_dig hst
  have h := sb4_bit 6 7 8 11 st x
  refine row_eq (by decide) hst ?_ ?_ ?_ ?_ ?_ ?_
  · rw [if_pos rfl, d1]
    exact (dig3 _ 6).trans (by rw [show _ = _ from h 6, show _ = _ from h 7, show _ = _ from h 8]; rfl)
  · rw [if_pos rfl, ← d2]; exact h 11
  · exact (dig3 _ 3).trans ((by rw [h 3, h 4, h 5]; rfl : _ = _).trans (dig3 x 3).symm)
  · exact h 10
  · exact (dig3 _ 0).trans ((by rw [h 0, h 1, h 2]; rfl : _ = _).trans (dig3 x 0).symm)
  · exact h 9
theorem row_1 {k st x : Nat} (hst : st < 16) : rowN k (sb4 3 4 5 10 st x) = (rowN k x).take (1 + 3 * 1) ++ sgnS 1 st ++ (rowN k x).drop (4 + 3 * 1) := by
  obtain ⟨d1, d2⟩ := st_dig hst
  have h := sb4_bit 3 4 5 10 st x
  refine row_eq (by decide) hst ?_ ?_ ?_ ?_ ?_ ?_
  · exact (dig3 _ 6).trans ((by rw [h 6, h 7, h 8]; rfl : _ = _).trans (dig3 x 6).symm)
  · exact h 11
  · rw [if_pos rfl, d1]
    exact (dig3 _ 3).trans (by rw [h 3, h 4, h 5]; rfl)
  · rw [if_pos rfl, ← d2]; exact h 10
  · exact (dig3 _ 0).trans ((by rw [h 0, h 1, h 2]; rfl : _ = _).trans (dig3 x 0).symm)
  · exact h 9
theorem row_2 {k st x : Nat} (hst : st < 16) : rowN k (sb4 0 1 2 9 st x) = (rowN k x).take (1 + 3 * 2) ++ sgnS 2 st ++ (rowN k x).drop (4 + 3 * 2) := by
  obtain ⟨d1, d2⟩ := st_dig hst
  have h := sb4_bit 0 1 2 9 st x
  refine row_eq (by decide) hst ?_ ?_ ?_ ?_ ?_ ?_
  · exact (dig3 _ 6).trans ((by rw [h 6, h 7, h 8]; rfl : _ = _).trans (dig3 x 6).symm)
  · exact h 11
  · exact (dig3 _ 3).trans ((by rw [h 3, h 4, h 5]; rfl : _ = _).trans (dig3 x 3).symm)
  · exact h 10
  · rw [if_pos rfl, d1]
    exact (dig3 _ 0).trans (by rw [h 0, h 1, h 2]; rfl)
  · rw [if_pos rfl, ← d2]; exact h 9
set_option maxHeartbeats 4000000 in
/-- the places of a class -/
structure Places (o st : Nat) (p0 p1 p2 p3 : Int) (k0 k1 k2 k3 : Nat) : Prop where
  get : ∀ Q : D → Prop, Q (.tuple [.int p0, .int p1, .int p2, .int p3]) → getP (.tuple [.tuple [.int 64, .int 128, .int 256, .int 2048], .tuple [.int 8, .int 16, .int 32, .int 1024], .tuple [.int 1, .int 2, .int 4, .int 512]]) (.int (o : Int)) Q
  s0 : Sm p0
  s1 : Sm p1
  s2 : Sm p2
  s3 : Sm p3
  e0 : p0 = 2 ^ k0
  e1 : p1 = 2 ^ k1
  e2 : p2 = 2 ^ k2
  e3 : p3 = 2 ^ k3
  l0 : k0 < 12
  l1 : k1 < 12
  l2 : k2 < 12
  l3 : k3 < 12
  row : ∀ k x, rowN k (sb4 k0 k1 k2 k3 st x) = (rowN k x).take (1 + 3 * o) ++ sgnS o st ++ (rowN k x).drop (4 + 3 * o)
theorem smB {a : Int} (h : litI a = true) : Sm a := sm_lit2 h
theorem places {o st : Nat} (ho : o < 3) (hst : st < 16) : ∃ p0 p1 p2 p3 k0 k1 k2 k3, Places o st p0 p1 p2 p3 k0 k1 k2 k3 := by
  rcases lt3 ho with rfl | rfl | rfl
  · exact ⟨64, 128, 256, 2048, 6, 7, 8, 11, fun Q hq => gTuple (by decide) (by rfl) (by rfl) hq, smB rfl, smB rfl, smB rfl, smB rfl, rfl, rfl, rfl, rfl, by decide, by decide, by decide, by decide, fun k x => row_0 hst⟩
  · exact ⟨8, 16, 32, 1024, 3, 4, 5, 10, fun Q hq => gTuple (by decide) (by rfl) (by rfl) hq, smB rfl, smB rfl, smB rfl, smB rfl, rfl, rfl, rfl, rfl, by decide, by decide, by decide, by decide, fun k x => row_1 hst⟩
  · exact ⟨1, 2, 4, 512, 0, 1, 2, 9, fun Q hq => gTuple (by decide) (by rfl) (by rfl) hq, smB rfl, smB rfl, smB rfl, smB rfl, rfl, rfl, rfl, rfl, by decide, by decide, by decide, by decide, fun k x => row_2 hst⟩
theorem b_listed (T : Tab) (P : Params) (h0 : T.F (Str.ofString "range") = none) (h1 : T.F (Str.ofString "S_IMODE") = some sIMODE) (h2 : T.F (Str.ofString "S_IFMT") = some sIFMT) (h3 : T.F (Str.ofString "filemode") = some sFilemode) : Body T 20 152 P [Str.ofString "mode", Str.ofString "own", Str.ofString "state"] sListed := by
  rintro ds Q ⟨m, o, st, ho, hst, rfl, h⟩
  refine ⟨rfl, ?_⟩
  dsimp only [List.zip, List.zipWith]
  obtain ⟨p0, p1, p2, p3, k0, k1, k2, k3, L⟩ := places ho hst
  conv => arg 3; whnf
  conv => arg 4; whnf
  repeat walk_at "e"
  refine ⟨_, rfl, ?_⟩
  repeat walk_at "e"
  generalize hX0 : Builtin.bitAnd (m : Int) 4095 = X0
  refine L.get _ ?_
  repeat walk_at "e"
  refine gTuple (by decide) (by rfl : seqIndex? 0 4 = some 0) rfl ?_
  repeat walk_at "e"
  refine dPow 0 rfl (by decide) ?_
  refine dDiv (by decide) (by decide) ?_
  repeat walk_at "e"
  refine bMul (Or.inl L.s0) ?_
  repeat walk_at "e"
  generalize hX1 : X0 - Builtin.bitAnd X0 p0 + p0 * Int.fmod ((st / 2 ^ 0 : Nat) : Int) 2 = X1
  refine L.get _ ?_
  repeat walk_at "e"
  refine gTuple (by decide) (by rfl : seqIndex? 1 4 = some 1) rfl ?_
  repeat walk_at "e"
  refine dPow 1 rfl (by decide) ?_
  refine dDiv (by decide) (by decide) ?_
  repeat walk_at "e"
  refine bMul (Or.inl L.s1) ?_
  repeat walk_at "e"
  generalize hX2 : X1 - Builtin.bitAnd X1 p1 + p1 * Int.fmod ((st / 2 ^ 1 : Nat) : Int) 2 = X2
  refine L.get _ ?_
  repeat walk_at "e"
  refine gTuple (by decide) (by rfl : seqIndex? 2 4 = some 2) rfl ?_
  repeat walk_at "e"
  refine dPow 2 rfl (by decide) ?_
  refine dDiv (by decide) (by decide) ?_
  repeat walk_at "e"
  refine bMul (Or.inl L.s2) ?_
  repeat walk_at "e"
  generalize hX3 : X2 - Builtin.bitAnd X2 p2 + p2 * Int.fmod ((st / 2 ^ 2 : Nat) : Int) 2 = X3
  refine L.get _ ?_
  repeat walk_at "e"
  refine gTuple (by decide) (by rfl : seqIndex? 3 4 = some 3) rfl ?_
  repeat walk_at "e"
  refine dPow 3 rfl (by decide) ?_
  refine dDiv (by decide) (by decide) ?_
  repeat walk_at "e"
  refine bMul (Or.inl L.s3) ?_
  repeat walk_at "e"
  refine ⟨_, rfl, ?_⟩
  repeat walk_at "e"
  generalize hX4 : X3 - Builtin.bitAnd X3 p3 + p3 * Int.fmod ((st / 2 ^ 3 : Nat) : Int) 2 = X4
  obtain ⟨g1, g2, g3, g4⟩ := set4 p0 p1 p2 p3 X0 X1 X2 X3 X4 st hX1 hX2 hX3 hX4 k0 k1 k2 k3 L.e0 L.e1 L.e2 L.e3
  rw [ba_4095] at hX0
  clear hX1 hX2 hX3 hX4
  have e8 := set4b (k0 := k0) (k1 := k1) (k2 := k2) (k3 := k3) hX0.symm g1 g2 g3 g4 L.e0 L.e1 L.e2 L.e3
  have hlt : sb4 k0 k1 k2 k3 st (m % 4096) < 4096 := sb4_lt L.l0 L.l1 L.l2 L.l3 (Nat.mod_lt _ (by decide))
  obtain ⟨t1, t2⟩ := tops (a := m / 4096) hlt
  rw [ba_61440, e9L, e8, ← Int.natCast_add]
  refine ⟨_, rfl, ?_⟩
  repeat walk_at "e"
  rw [t1, t2, L.row]
  exact h
end
section
set_option tactic.hygienic false
set_option synthInstance.maxSize 4000
set_option synthInstance.maxHeartbeats 400000
/-- all gates -/
noncomputable def othN (t : Nat) : List Nat := [0, 1, 2, 3].filter fun r => !(r == t)
noncomputable def grdN (o w : Nat) : List Nat := if 0 < w then [2 * o + w - 1] else []
noncomputable def gateN (t w0 w1 w2 : Nat) : List Nat := t :: (grdN ((othN t).getD 0 0) w0 ++ grdN ((othN t).getD 1 0) w1 ++ grdN ((othN t).getD 2 0) w2)
noncomputable def allG : List (List Nat) := (List.range 4).flatMap fun t => (List.range 3).flatMap fun a => (List.range 3).flatMap fun b => (List.range 3).map fun c => gateN t a b c
theorem allG_in : ∀ g ∈ allG, GateIn g := by
  have h : ∀ g ∈ allG, g ≠ [] ∧ g.headD 0 < 4 ∧ g.tail.length ≤ 3 ∧ ∀ n ∈ g.tail, n < 8 := by decide +kernel
  intro g hg
  obtain ⟨h0, h1, h2, h3⟩ := h g hg
  cases g with
  | nil => exact absurd rfl h0
  | cons t q => exact ⟨t, q, rfl, h1, h2, h3⟩
theorem gateI_N (t : Nat) (w0 w1 w2 : Int) (ht : t < 4) (h0 : 0 ≤ w0 ∧ w0 < 3) (h1 : 0 ≤ w1 ∧ w1 < 3) (h2 : 0 ≤ w2 ∧ w2 < 3) : ∃ g ∈ allG, gateI t w0 w1 w2 = g.map fun n : Nat => (n : Int) := by
  obtain ⟨a, rfl⟩ := Int.eq_ofNat_of_zero_le h0.1
  obtain ⟨b, rfl⟩ := Int.eq_ofNat_of_zero_le h1.1
  obtain ⟨c, rfl⟩ := Int.eq_ofNat_of_zero_le h2.1
  have h : ∀ t < 4, ∀ a < 3, ∀ b < 3, ∀ c < 3, gateN t a b c ∈ allG ∧ gateI t (a : Nat) (b : Nat) (c : Nat) = (gateN t a b c).map fun n : Nat => (n : Int) := by decide +kernel
  obtain ⟨e1, e2⟩ := h t ht a (by (first | lia | omega)) b (by (first | lia | omega)) c (by (first | lia | omega))
  exact ⟨_, e1, e2⟩
theorem step_lt : ∀ g ∈ allG, ∀ st < 16, stepN g st < 16 := by decide +kernel
theorem step_back : ∀ g ∈ allG, ∀ st < 16, stepN g (stepN g st) = st := by decide +kernel
theorem run_lt {gs : List (List Nat)} (h : ∀ g ∈ gs, g ∈ allG) {st : Nat} (hst : st < 16) : runN gs st < 16 := by
  induction gs generalizing st with
  | nil => exact hst
  | cons g gs ih => exact ih (fun x hx => h x (by simp [hx])) (step_lt g (h g (by simp)) st hst)
theorem run_app (a b : List (List Nat)) (st : Nat) : runN (a ++ b) st = runN b (runN a st) := by
  unfold runN; rw [List.foldl_append]
theorem run_back {gs : List (List Nat)} (h : ∀ g ∈ gs, g ∈ allG) {st : Nat} (hst : st < 16) : runN gs.reverse (runN gs st) = st := by
  induction gs generalizing st with
  | nil => rfl
  | cons g gs ih =>
    have h1 := step_lt g (h g (by simp)) st hst
    rw [List.reverse_cons, run_app]
    show runN [g] (runN gs.reverse (runN gs (stepN g st))) = st
    rw [ih (fun x hx => h x (by simp [hx])) h1]
    exact step_back g (h g (by simp)) st hst
noncomputable def rowS (m o st : Nat) : Str := strOf (rowD m o st)
theorem strOf_list (l : List Nat) : (strOf l).cps.toList = l := by
  show l.toArray.toList = l
  simp
theorem lt_pre (p x y : List Nat) : p ++ x < p ++ y ↔ x < y := by
  induction p with
  | nil => rfl
  | cons a p ih =>
    show a :: (p ++ x) < a :: (p ++ y) ↔ _
    rw [List.cons_lt_cons_iff, ih]
    simp
theorem lt_post : ∀ (x y p : List Nat), x.length = y.length → x ≠ y → (x ++ p < y ++ p ↔ x < y)
  | [], [], p, _, h => absurd rfl h
  | [], b :: y, p, h, _ => by simp at h
  | a :: x, [], p, h, _ => by simp at h
  | a :: x, b :: y, p, h, hn => by
    show a :: (x ++ p) < b :: (y ++ p) ↔ _
    rw [List.cons_lt_cons_iff, List.cons_lt_cons_iff]
    by_cases e : a = b
    · subst e
      have := lt_post x y p (by simpa using h) (fun e => hn (by rw [e]))
      rw [this]
    · simp [e]
theorem sgn_lt : ∀ o < 3, ∀ i < 16, ∀ j < 16, i ≠ j → sgnS o j ≠ sgnS o i ∧ (decide (sgnS o j < sgnS o i) = decide (keyN j < keyN i)) := by decide +kernel
theorem row_lt (m : Nat) {o i j : Nat} (ho : o < 3) (hi : i < 16) (hj : j < 16) (hne : i ≠ j) : decide (rowD m o j < rowD m o i) = decide (keyN j < keyN i) := by
  obtain ⟨e1, e2⟩ := sgn_lt o ho i hi j hj hne
  rw [← e2]
  unfold rowD
  rw [List.append_assoc, List.append_assoc]
  have := lt_post (sgnS o j) (sgnS o i) ((rowN (m / 4096 % 16) (m % 4096)).drop (4 + 3 * o)) rfl e1
  rw [decide_eq_decide, lt_pre, this]
theorem key_inj : ∀ i < 16, ∀ j < 16, keyN i = keyN j → i = j := by decide +kernel
theorem cmp_key (m : Nat) {o i j : Nat} (ho : o < 3) (hi : i < 16) (hj : j < 16) (hne : i ≠ j) : cmpI (rowS m o i) (rowS m o j) = bif decide (keyN j < keyN i) then 1 else -1 := by
  unfold cmpI rowS
  rw [strOf_list, strOf_list, row_lt m ho hi hj hne, row_lt m ho hj hi (Ne.symm hne)]
  have hk : keyN i ≠ keyN j := fun e => hne (key_inj i hi j hj e)
  by_cases e : keyN j < keyN i
  · have e' : ¬ keyN i < keyN j := by (first | lia | omega)
    simp [e, e', b2n]
  · have e' : keyN i < keyN j := by (first | lia | omega)
    simp [e, e', b2n]
theorem row_inj (m : Nat) {o i j : Nat} (ho : o < 3) (hi : i < 16) (hj : j < 16) (h : rowS m o i = rowS m o j) : i = j := by
  by_cases hne : i = j
  · exact hne
  exfalso
  have e := congrArg (fun s : Str => s.cps.toList) h
  simp only [rowS, strOf_list] at e
  unfold rowD at e
  have hl : (sgnS o i).length = (sgnS o j).length := rfl
  have e1 := List.append_inj e (by simp only [List.length_append, hl])
  have e2 := List.append_inj e1.1 rfl
  exact (sgn_lt o ho i hi j hj hne).1 e2.2.symm
end
section
set_option tactic.hygienic false
set_option synthInstance.maxSize 4000
set_option synthInstance.maxHeartbeats 400000
noncomputable def xorL (l : List Bool) : Bool := l.foldr xor false
theorem xorL_cons (a : Bool) (l : List Bool) : xorL (a :: l) = xor a (xorL l) := rfl
theorem xorL_app (a b : List Bool) : xorL (a ++ b) = xor (xorL a) (xorL b) := by
  induction a with
  | nil => simp [xorL]
  | cons x a ih => show xor x (xorL (a ++ b)) = xor (xor x (xorL a)) (xorL b); rw [ih, Bool.xor_assoc]
theorem xorL_perm {a b : List Bool} (h : a.Perm b) : xorL a = xorL b := by
  induction h with
  | nil => rfl
  | cons x _ ih => rw [xorL_cons, xorL_cons, ih]
  | swap x y l => rw [xorL_cons, xorL_cons, xorL_cons, xorL_cons]; cases x <;> cases y <;> cases xorL l <;> rfl
  | trans _ _ i1 i2 => exact i1.trans i2
theorem xorL_xor {α : Type} (f g : α → Bool) (l : List α) : xorL (l.map fun a => xor (f a) (g a)) = xor (xorL (l.map f)) (xorL (l.map g)) := by
  induction l with
  | nil => rfl
  | cons x l ih =>
    rw [List.map_cons, List.map_cons, List.map_cons, xorL_cons, xorL_cons, xorL_cons, ih]
    cases f x <;> cases g x <;> cases xorL (l.map f) <;> cases xorL (l.map g) <;> rfl
theorem xorL_filter {α : Type} (q : α → Bool) (l : List α) : (l.filter q).length % 2 = (xorL (l.map q)).toNat := by
  induction l with
  | nil => rfl
  | cons x l ih =>
    rw [List.map_cons, xorL_cons, List.filter_cons]
    cases q x with
    | false => simpa using ih
    | true =>
      simp only [if_true, List.length_cons]
      cases h : xorL (l.map q) <;> rw [h] at ih <;> simp at ih ⊢ <;> (first | lia | omega)
/-- over the pairs of a list -/
noncomputable def px (F : Nat → Nat → Bool) : List Nat → Bool
  | [] => false
  | a :: l => xor (xorL (l.map (F a))) (px F l)
theorem px_perm {F : Nat → Nat → Bool} {a b : List Nat} (h : a.Perm b) (hs : ∀ x ∈ a, ∀ y ∈ a, F x y = F y x) : px F a = px F b := by
  induction h with
  | nil => rfl
  | cons x hp ih =>
    show xor _ _ = xor _ _
    rw [ih (fun u hu v hv => hs u (List.mem_cons_of_mem _ hu) v (List.mem_cons_of_mem _ hv)), xorL_perm (hp.map (F x))]
  | swap x y l =>
    show xor (xorL ((x :: l).map (F y))) (xor (xorL (l.map (F x))) (px F l)) = xor (xorL ((y :: l).map (F x))) (xor (xorL (l.map (F y))) (px F l))
    rw [List.map_cons, List.map_cons, xorL_cons, xorL_cons, hs y (by simp) x (by simp)]
    cases F x y <;> cases xorL (l.map (F x)) <;> cases xorL (l.map (F y)) <;> cases px F l <;> rfl
  | trans h1 h2 i1 i2 => exact (i1 hs).trans (i2 fun x hx y hy => hs x (h1.mem_iff.mpr hx) y (h1.mem_iff.mpr hy))
theorem px_map (F : Nat → Nat → Bool) (k : Nat → Nat) (l : List Nat) : px F (l.map k) = px (fun a b => F (k a) (k b)) l := by
  induction l with
  | nil => rfl
  | cons a l ih => show xor _ _ = xor _ _; rw [ih, List.map_map]; rfl
theorem px_xor (F G : Nat → Nat → Bool) (l : List Nat) : px (fun a b => xor (F a b) (G a b)) l = xor (px F l) (px G l) := by
  induction l with
  | nil => rfl
  | cons a l ih =>
    show xor _ _ = xor (xor _ _) (xor _ _)
    rw [ih, xorL_xor]
    cases xorL (l.map (F a)) <;> cases xorL (l.map (G a)) <;> cases px F l <;> cases px G l <;> rfl
theorem px_congr {F G : Nat → Nat → Bool} {l : List Nat} (h : ∀ a ∈ l, ∀ b ∈ l, F a b = G a b) : px F l = px G l := by
  induction l with
  | nil => rfl
  | cons a l ih =>
    show xor _ _ = xor _ _
    rw [ih (fun u hu v hv => h u (List.mem_cons_of_mem _ hu) v (List.mem_cons_of_mem _ hv)), List.map_congr_left (fun b hb => h a (by simp) b (List.mem_cons_of_mem _ hb))]
/-- are two states turned by `k`, told by a key -/
noncomputable def Fd (key k : Nat → Nat) (a b : Nat) : Bool := xor (decide (key (k b) < key (k a))) (decide (key b < key a))
theorem Fd_sym {key k : Nat → Nat} {a b : Nat} (h1 : key (k a) = key (k b) → a = b) (h2 : key a = key b → a = b) : Fd key k a b = Fd key k b a := by
  by_cases e : a = b
  · subst e; rfl
  · have n1 : key (k a) ≠ key (k b) := fun x => e (h1 x)
    have n2 : key a ≠ key b := fun x => e (h2 x)
    unfold Fd
    have e1 : decide (key (k b) < key (k a)) = !decide (key (k a) < key (k b)) := by rw [Bool.eq_iff_iff]; simp; (first | lia | omega)
    have e2 : decide (key b < key a) = !decide (key a < key b) := by rw [Bool.eq_iff_iff]; simp; (first | lia | omega)
    rw [e1, e2]; simp
theorem step_perm : ∀ g ∈ allG, (((List.range 16).map (stepN g)).isPerm (List.range 16)) = true := by decide +kernel
theorem run_inj {gs : List (List Nat)} (h : ∀ g ∈ gs, g ∈ allG) {a b : Nat} (ha : a < 16) (hb : b < 16) (e : runN gs a = runN gs b) : a = b := by
  have := congrArg (runN gs.reverse) e
  rwa [run_back h ha, run_back h hb] at this
theorem run_perm {gs : List (List Nat)} (h : ∀ g ∈ gs, g ∈ allG) : ((List.range 16).map (runN gs)).Perm (List.range 16) := by
  induction gs with
  | nil => exact List.Perm.of_eq (List.map_id _)
  | cons g gs ih =>
    have e : (List.range 16).map (runN (g :: gs)) = ((List.range 16).map (stepN g)).map (runN gs) := by rw [List.map_map]; rfl
    rw [e]
    exact ((List.isPerm_iff.mp (step_perm g (h g (by simp)))).map _).trans (ih fun x hx => h x (by simp [hx]))
theorem step_odd : ∀ g ∈ allG, px (Fd keyN (stepN g)) (List.range 16) = (g.length == 4) := by decide +kernel
theorem step_odd' : ∀ g ∈ allG, px (Fd id (stepN g)) (List.range 16) = (g.length == 4) := by decide +kernel
theorem run_odd (key : Nat → Nat) (hk : ∀ i < 16, ∀ j < 16, key i = key j → i = j) (ho : ∀ g ∈ allG, px (Fd key (stepN g)) (List.range 16) = (g.length == 4)) {gs : List (List Nat)} (h : ∀ g ∈ gs, g ∈ allG) : px (Fd key (runN gs)) (List.range 16) = xorL (gs.map fun g => g.length == 4) := by
  induction gs with
  | nil =>
    have : px (Fd key (runN [])) (List.range 16) = px (fun _ _ => false) (List.range 16) := px_congr fun a _ b _ => by
      show xor (decide (key b < key a)) (decide (key b < key a)) = false
      simp
    rw [this]; rfl
  | cons g gs ih =>
    have h' : ∀ x ∈ gs, x ∈ allG := fun x hx => h x (by simp [hx])
    have hg := h g (by simp)
    have e : px (Fd key (runN (g :: gs))) (List.range 16) = px (fun a b => xor (Fd key (runN gs) (stepN g a) (stepN g b)) (Fd key (stepN g) a b)) (List.range 16) := px_congr fun a _ b _ => by
      show xor (decide (key (runN gs (stepN g b)) < key (runN gs (stepN g a)))) _ = xor (xor (decide (key (runN gs (stepN g b)) < key (runN gs (stepN g a)))) _) (xor _ _)
      generalize decide (key (runN gs (stepN g b)) < key (runN gs (stepN g a))) = A
      generalize decide (key (stepN g b) < key (stepN g a)) = B
      generalize decide (key b < key a) = C
      cases A <;> cases B <;> cases C <;> rfl
    rw [e, px_xor, ← px_map (Fd key (runN gs)) (stepN g), List.map_cons, xorL_cons, ho g hg]
    rw [px_perm (List.isPerm_iff.mp (step_perm g hg)) ?_, ih h', Bool.xor_comm]
    intro x hx y hy
    have hx' : x < 16 := by obtain ⟨u, hu, rfl⟩ := List.mem_map.mp hx; exact step_lt g hg u (List.mem_range.mp hu)
    have hy' : y < 16 := by obtain ⟨u, hu, rfl⟩ := List.mem_map.mp hy; exact step_lt g hg u (List.mem_range.mp hu)
    exact Fd_sym (fun e => run_inj h' hx' hy' (hk _ (run_lt h' hx') _ (run_lt h' hy') e)) (hk x hx' y hy')
noncomputable def prsP : List (Nat × Nat) := prs fun i j => (i, j)
theorem prsP_map {α : Type} (f : Nat → Nat → α) : prs f = prsP.map fun p => f p.1 p.2 := by
  unfold prsP prs
  rw [List.map_flatMap]
  congr 1
  funext i
  rw [List.map_map]
  rfl
theorem diff_eq {α β : Type} [BEq β] (f g : α → β) (d : β) (l : List α) : ((List.range l.length).filter fun a => !((l.map f).getD a d == (l.map g).getD a d)).length = (l.filter fun p => !(f p == g p)).length := by
  induction l with
  | nil => rfl
  | cons x l ih =>
    rw [List.length_cons, List.range_succ_eq_map, List.filter_cons, List.filter_cons, List.filter_map]
    have e : (!((List.map f (x :: l)).getD 0 d == (List.map g (x :: l)).getD 0 d)) = !(f x == g x) := rfl
    have e2 : ((fun a => !((List.map f (x :: l)).getD a d == (List.map g (x :: l)).getD a d)) ∘ Nat.succ) = fun a => !((l.map f).getD a d == (l.map g).getD a d) := rfl
    rw [e, e2]
    split
    · rw [List.length_cons, List.length_cons, List.length_map, ih]
    · rw [List.length_map, ih]
noncomputable def pairsOf : List Nat → List (Nat × Nat)
  | [] => []
  | a :: l => l.map (fun b => (a, b)) ++ pairsOf l
theorem px_pairs (F : Nat → Nat → Bool) (l : List Nat) : px F l = xorL ((pairsOf l).map fun p => F p.1 p.2) := by
  induction l with
  | nil => rfl
  | cons a l ih =>
    show xor _ _ = xorL ((l.map (fun b => (a, b)) ++ pairsOf l).map _)
    rw [List.map_append, xorL_app, List.map_map, ih]; rfl
theorem prsP_perm : (prsP.isPerm (pairsOf (List.range 16).reverse)) = true := by decide +kernel
theorem prsP_mem {F : Nat → Nat → Bool} (hs : ∀ x < 16, ∀ y < 16, F x y = F y x) : xorL (prsP.map fun p => F p.1 p.2) = px F (List.range 16) := by
  rw [xorL_perm ((List.isPerm_iff.mp prsP_perm).map _), ← px_pairs]
  exact px_perm (List.reverse_perm _) fun x hx y hy => hs x (by simpa using hx) y (by simpa using hy)
noncomputable def marksN (k : Nat → Nat) : List Int := prs fun i j => bif decide (keyN (k j) < keyN (k i)) then 1 else -1
theorem turned_par {gs : List (List Nat)} (h : ∀ g ∈ gs, g ∈ allG) : ((List.range 120).filter fun a => !((marksN id).getD a 0 == (marksN (runN gs)).getD a 0)).length % 2 = (gs.filter fun g => g.length == 4).length % 2 := by
  have e0 : (120 : Nat) = prsP.length := by decide +kernel
  unfold marksN
  rw [prsP_map, prsP_map, e0, diff_eq (fun p : Nat × Nat => (bif decide (keyN (id p.2) < keyN (id p.1)) then 1 else -1 : Int)) (fun p : Nat × Nat => (bif decide (keyN (runN gs p.2) < keyN (runN gs p.1)) then 1 else -1 : Int)), xorL_filter, xorL_filter]
  congr 1
  rw [← run_odd keyN key_inj step_odd h, ← prsP_mem fun x hx y hy => Fd_sym (fun e => run_inj h hx hy (key_inj _ (run_lt h hx) _ (run_lt h hy) e)) (key_inj x hx y hy)]
  congr 2
  funext p
  unfold Fd
  cases decide (keyN (runN gs p.2) < keyN (runN gs p.1)) <;> cases h2 : decide (keyN p.2 < keyN p.1) <;> simp only [id, h2] <;> rfl
end
section
set_option tactic.hygienic false
noncomputable def crossL (F : Nat → Nat → Bool) (x y : List Nat) : Bool := xorL (x.map fun a => xorL (y.map (F a)))
theorem px_app (F : Nat → Nat → Bool) (x y : List Nat) : px F (x ++ y) = xor (xor (px F x) (px F y)) (crossL F x y) := by
  induction x with
  | nil => show px F y = xor (xor false (px F y)) false; cases px F y <;> rfl
  | cons a x ih =>
    show xor (xorL ((x ++ y).map (F a))) (px F (x ++ y)) = xor (xor (xor (xorL (x.map (F a))) (px F x)) (px F y)) (xor (xorL (y.map (F a))) (crossL F x y))
    rw [ih, List.map_append, xorL_app]
    cases xorL (x.map (F a)) <;> cases xorL (y.map (F a)) <;> cases px F x <;> cases px F y <;> cases crossL F x y <;> rfl
theorem cross_perm {F : Nat → Nat → Bool} {x x' y y' : List Nat} (hx : x.Perm x') (hy : y.Perm y') : crossL F x y = crossL F x' y' := by
  unfold crossL
  rw [xorL_perm (hx.map _)]
  congr 2
  funext a
  exact xorL_perm (hy.map _)
theorem cross_map (F : Nat → Nat → Bool) (k : Nat → Nat) (x y : List Nat) : crossL F (x.map k) (y.map k) = crossL (fun a b => F (k a) (k b)) x y := by
  unfold crossL
  rw [List.map_map]
  congr 2
  funext a
  show xorL ((y.map k).map _) = _
  rw [List.map_map]; rfl
theorem cross_xor (F G : Nat → Nat → Bool) (x y : List Nat) : crossL (fun a b => xor (F a b) (G a b)) x y = xor (crossL F x y) (crossL G x y) := by
  unfold crossL
  rw [← xorL_xor]
  congr 2
  funext a
  exact xorL_xor _ _ y
noncomputable def gtB (a b : Nat) : Bool := decide (b < a)
theorem Fd_id (k : Nat → Nat) : Fd id k = fun a b => xor (gtB (k a) (k b)) (gtB a b) := rfl
theorem Fd_app {k : Nat → Nat} {x y : List Nat} (hx : (x.map k).Perm x) (hy : (y.map k).Perm y) : px (Fd id k) (x ++ y) = xor (px (Fd id k) x) (px (Fd id k) y) := by
  rw [px_app, Fd_id, cross_xor, ← cross_map gtB k, cross_perm hx hy]
  cases crossL gtB x y <;> simp
theorem xorL_true (l : List Nat) : xorL (l.map fun _ => true) = decide (l.length % 2 = 1) := by
  have := xorL_filter (fun _ : Nat => true) l
  rw [List.filter_eq_self.mpr (fun _ _ => rfl)] at this
  cases h : xorL (l.map fun _ => true) <;> rw [h] at this <;> simp at this ⊢ <;> omega
theorem Fd_cyc {k : Nat → Nat} {s : Nat} {t : List Nat} (hm : (s :: t).map k = t ++ [s]) (hs : s ∉ t) : px (Fd id k) (s :: t) = decide (t.length % 2 = 1) := by
  rw [Fd_id, px_xor, ← px_map gtB k, hm, px_app]
  show xor (xor (xor (px gtB t) (xor (xorL []) false)) (crossL gtB t [s])) (xor (xorL (t.map (gtB s))) (px gtB t)) = _
  rw [← xorL_true]
  have e1 : crossL gtB t [s] = xorL (t.map fun a => gtB a s) := by
    unfold crossL
    congr 2
    funext a
    show xor (gtB a s) false = _
    simp
  have e2 : (t.map fun _ => true) = t.map fun a => xor (gtB a s) (gtB s a) := List.map_congr_left fun a ha => by
    have : a ≠ s := fun e => hs (e ▸ ha)
    unfold gtB
    by_cases h : s < a
    · have h' : ¬ a < s := by (first | lia | omega)
      simp [h, h']
    · have h' : a < s := by (first | lia | omega)
      simp [h, h']
  rw [e1, e2, xorL_xor]
  cases px gtB t <;> cases xorL (t.map fun a => gtB a s) <;> cases xorL (t.map (gtB s)) <;> rfl
theorem map_nodup {k : Nat → Nat} {x : List Nat} (hx : x.Nodup) (hi : ∀ a ∈ x, ∀ b ∈ x, k a = k b → a = b) : (x.map k).Nodup := by
  induction x with
  | nil => exact List.nodup_nil
  | cons a x ih =>
    rw [List.map_cons, List.nodup_cons]
    rw [List.nodup_cons] at hx
    refine ⟨fun h => ?_, ih hx.2 fun u hu v hv => hi u (by simp [hu]) v (by simp [hv])⟩
    obtain ⟨b, hb, e⟩ := List.mem_map.mp h
    exact hx.1 (hi b (by simp [hb]) a (by simp) e ▸ hb)
theorem fin_cyc {k : Nat → Nat} (hi : ∀ a < 16, ∀ b < 16, k a = k b → a = b) {seen t : List Nat} {st at_ : Nat} (hb : ∀ x ∈ seen ++ st :: t, x < 16) (hn : (seen ++ st :: t).Nodup) (hp : (seen.map k).Perm seen) (hm : (st :: t).map k = t ++ [at_]) (ha : at_ ∈ seen ++ st :: t) : at_ = st := by
  have hv : at_ ∈ (st :: t).map k := by rw [hm]; simp
  rw [List.nodup_append] at hn
  rcases List.mem_append.mp ha with h | h
  · obtain ⟨u, hu, e⟩ := List.mem_map.mp (hp.mem_iff.mpr h)
    obtain ⟨v, hv, e'⟩ := List.mem_map.mp hv
    have := hi u (hb u (List.mem_append_left _ hu)) v (hb v (List.mem_append_right _ hv)) (e.trans e'.symm)
    exact absurd this (hn.2.2 u hu v hv)
  · rcases List.mem_cons.mp h with h | h
    · exact h
    · have h2 : ((st :: t).map k).Nodup := map_nodup hn.2.1 fun a ha b hb' => hi a (hb a (List.mem_append_right _ ha)) b (hb b (List.mem_append_right _ hb'))
      rw [hm, List.nodup_append] at h2
      exact absurd rfl (h2.2.2 at_ h at_ (by simp))
theorem chase_cyc {k : Nat → Nat} (hk : ∀ a < 16, k a < 16) (hi : ∀ a < 16, ∀ b < 16, k a = k b → a = b) {seen : List Nat} {st : Nat} (hp : (seen.map k).Perm seen) : ∀ (n : Nat) (t : List Nat) (at_ : Nat), at_ < 16 → (∀ x ∈ seen ++ st :: t, x < 16) → (seen ++ st :: t).Nodup → (st :: t).map k = t ++ [at_] → freeN (seen ++ st :: t) ≤ n → ∃ t', chase k n at_ (seen ++ st :: t) = seen ++ st :: t' ∧ (∀ x ∈ seen ++ st :: t', x < 16) ∧ (seen ++ st :: t').Nodup ∧ (st :: t').map k = t' ++ [st]
  | 0, t, at_, h0, hb, hn, hm, hf => by
    have he : (List.range 16).filter (fun i => !(seen ++ st :: t).elem i) = [] := List.length_eq_zero_iff.mp (by unfold freeN at hf; (first | lia | omega))
    have ha : at_ ∈ seen ++ st :: t := by
      have := List.filter_eq_nil_iff.mp he at_ (List.mem_range.mpr h0)
      rw [← List.elem_iff]
      cases h : (seen ++ st :: t).elem at_ with
      | true => rfl
      | false => rw [h] at this; exact absurd rfl this
    have e := fin_cyc hi hb hn hp hm ha
    exact ⟨t, rfl, hb, hn, by rw [hm, e]⟩
  | n + 1, t, at_, h0, hb, hn, hm, hf => by
    cases h : (seen ++ st :: t).elem at_ with
    | true =>
      have e := fin_cyc hi hb hn hp hm (List.elem_iff.mp h)
      refine ⟨t, ?_, hb, hn, by rw [hm, e]⟩
      show (bif (seen ++ st :: t).elem at_ then _ else _) = _
      rw [h]; rfl
    | false =>
      have e : chase k (n + 1) at_ (seen ++ st :: t) = chase k n (k at_) (seen ++ st :: (t ++ [at_])) := by
        show (bif (seen ++ st :: t).elem at_ then _ else _) = _
        rw [h]
        show chase k n (k at_) (seen ++ st :: t ++ [at_]) = _
        rw [List.append_assoc]; rfl
      have hnot : at_ ∉ seen ++ st :: t := fun hx => by rw [List.elem_iff.mpr hx] at h; exact Bool.noConfusion h
      have e2 : seen ++ st :: (t ++ [at_]) = seen ++ st :: t ++ [at_] := by rw [List.append_assoc]; rfl
      rw [e]
      refine chase_cyc hk hi hp n (t ++ [at_]) (k at_) (hk at_ h0) ?_ ?_ ?_ ?_
      · intro x hx
        rw [e2] at hx
        rcases List.mem_append.mp hx with hx | hx
        · exact hb x hx
        · rw [List.mem_singleton.mp hx]; exact h0
      · rw [e2, List.nodup_append]
        refine ⟨hn, by simp, fun a ha b hb' e => ?_⟩
        rw [List.mem_singleton.mp hb'] at e
        exact hnot (e ▸ ha)
      · show (st :: t ++ [at_]).map k = _
        rw [List.map_append, hm]; rfl
      · rw [e2]
        have := free_app h0 h
        (first | lia | omega)
noncomputable def RI (k : Nat → Nat) (p : Nat × List Nat) : Prop := (∀ x ∈ p.2, x < 16) ∧ p.2.Nodup ∧ (p.2.map k).Perm p.2 ∧ px (Fd id k) p.2 = decide ((p.2.length + p.1) % 2 = 1)
theorem freeN_le (s : List Nat) : freeN s ≤ 16 := by
  unfold freeN
  exact Nat.le_trans (List.length_filter_le _ _) (by rw [List.length_range]; exact Nat.le_refl _)
theorem par2 (x t : Nat) : decide ((x + t) % 2 = 1) = (decide (x % 2 = 1)).xor (decide (t % 2 = 1)) := by
  rw [Nat.add_mod]
  rcases Nat.mod_two_eq_zero_or_one x with h | h <;> rcases Nat.mod_two_eq_zero_or_one t with h' | h' <;> rw [h, h'] <;> rfl
theorem turn_RI {k : Nat → Nat} (hk : ∀ a < 16, k a < 16) (hi : ∀ a < 16, ∀ b < 16, k a = k b → a = b) {p : Nat × List Nat} (hp : RI k p) {st : Nat} (hst : st < 16) : RI k (turnR k p st) ∧ st ∈ (turnR k p st).2 ∧ ∀ x ∈ p.2, x ∈ (turnR k p st).2 := by
  obtain ⟨n, seen⟩ := p
  obtain ⟨h1, h2, h3, h4⟩ := hp
  simp only at h1 h2 h3 h4
  unfold turnR
  cases h : seen.elem st with
  | true =>
    have e : chase k 16 st seen = seen := by
      show (bif seen.elem st then _ else _) = _
      rw [h]; rfl
    simp only [e]
    exact ⟨⟨h1, h2, h3, h4⟩, List.elem_iff.mp h, fun x hx => hx⟩
  | false =>
    have hnot : st ∉ seen := fun hx => by rw [List.elem_iff.mpr hx] at h; exact Bool.noConfusion h
    have e : chase k 16 st seen = chase k 15 (k st) (seen ++ [st]) := by
      show (bif seen.elem st then _ else _) = _
      rw [h]; rfl
    have hf := free_app hst h
    have hf' := freeN_le seen
    obtain ⟨t', q1, q2, q3, q4⟩ := chase_cyc hk hi h3 15 [] (k st) (hk st hst) (by
      intro x hx
      rcases List.mem_append.mp hx with hx | hx
      · exact h1 x hx
      · rw [List.mem_singleton.mp hx]; exact hst) (by
      rw [List.nodup_append]
      refine ⟨h2, by simp, fun a ha b hb' e => ?_⟩
      rw [List.mem_singleton.mp hb'] at e
      exact hnot (e ▸ ha)) rfl (by (first | lia | omega))
    simp only [e, q1]
    have hc : (t' ++ [st]).Perm (st :: t') := List.perm_append_comm
    have hs : st ∉ t' := by
      have := (List.nodup_append.mp q3).2.1
      exact (List.nodup_cons.mp this).1
    refine ⟨⟨q2, q3, ?_, ?_⟩, by simp, fun x hx => List.mem_append_left _ hx⟩
    · show ((seen ++ st :: t').map k).Perm _
      rw [List.map_append, q4]
      exact h3.append hc
    · show px (Fd id k) (seen ++ st :: t') = decide (((seen ++ st :: t').length + (n + 1)) % 2 = 1)
      rw [Fd_app h3 (by rw [q4]; exact hc), h4, Fd_cyc q4 hs, List.length_append, List.length_cons]
      rw [show seen.length + (t'.length + 1) + (n + 1) = (seen.length + n) + t'.length + 2 from by (first | lia | omega), Nat.add_mod_right, par2 (seen.length + n) t'.length]
theorem rings_RI {k : Nat → Nat} (hk : ∀ a < 16, k a < 16) (hi : ∀ a < 16, ∀ b < 16, k a = k b → a = b) : ∀ (l : List Nat) (p : Nat × List Nat), RI k p → (∀ x ∈ l, x < 16) → RI k (l.foldl (turnR k) p) ∧ (∀ x ∈ l, x ∈ (l.foldl (turnR k) p).2) ∧ ∀ x ∈ p.2, x ∈ (l.foldl (turnR k) p).2
  | [], p, hp, hl => ⟨hp, fun x hx => absurd hx (by simp), fun x hx => hx⟩
  | a :: l, p, hp, hl => by
    obtain ⟨r1, r2, r3⟩ := turn_RI hk hi hp (hl a (by simp))
    obtain ⟨s1, s2, s3⟩ := rings_RI hk hi l _ r1 fun x hx => hl x (by simp [hx])
    refine ⟨s1, fun x hx => ?_, fun x hx => s3 x (r3 x hx)⟩
    rcases List.mem_cons.mp hx with e | hx
    · rw [e]; exact s3 a r2
    · exact s2 x hx
theorem rings_par {gs : List (List Nat)} (h : ∀ g ∈ gs, g ∈ allG) : ringsN (runN gs) % 2 = (gs.filter fun g => g.length == 4).length % 2 := by
  have hk : ∀ a < 16, runN gs a < 16 := fun a ha => run_lt h ha
  have hi : ∀ a < 16, ∀ b < 16, runN gs a = runN gs b → a = b := fun a ha b hb e => run_inj h ha hb e
  obtain ⟨⟨r1, r2, r3, r4⟩, s2, -⟩ := rings_RI hk hi (List.range 16) (0, []) ⟨by simp, List.nodup_nil, List.Perm.refl _, rfl⟩ fun x hx => List.mem_range.mp hx
  have hp : ((List.range 16).foldl (turnR (runN gs)) (0, [])).2.Perm (List.range 16) := (List.perm_ext_iff_of_nodup r2 List.nodup_range).mpr fun a => ⟨fun ha => List.mem_range.mpr (r1 a ha), fun ha => s2 a ha⟩
  have hl := hp.length_eq
  rw [List.length_range] at hl
  rw [xorL_filter, ← run_odd id (fun _ _ _ _ e => e) step_odd' h]
  rw [px_perm (F := Fd id (runN gs)) hp fun x hx y hy => Fd_sym (key := id) (k := runN gs) (fun e => hi x (r1 x hx) y (r1 y hy) e) (fun e => e), hl] at r4
  rw [r4]
  unfold ringsN
  by_cases c : (16 + ((List.range 16).foldl (turnR (runN gs)) (0, [])).1) % 2 = 1
  · rw [decide_eq_true c]; show _ = 1; (first | lia | omega)
  · rw [decide_eq_false c]; show _ = 0; (first | lia | omega)
end
section
set_option tactic.hygienic false
section
variable {x : Str} {elt : Expr} {ev : List (Str × D) → Expr → (D → Prop) → Prop} {tv : List (Str × D) → Expr → (Bool → Prop) → Prop}
/-- a comprehension over items that are told by a number -/
theorem comp1_mapI {ι : Type} {Q : List (Str × D) → List D → Prop} (a b : ι → D) : ∀ (is : List ι) (ρ : List (Str × D)) (acc : List D),
    (∀ i ∈ is, ∀ Q', Q' (b i) → ev (setV x (a i) ρ) elt Q') → (∀ ρ', Q ρ' (acc ++ is.map b)) → comp1 x [] elt ev tv (is.map a) ρ acc Q
  | [], ρ, acc, _, h => by
    have := h ρ
    rw [List.map_nil, List.append_nil] at this
    exact this
  | i :: r, ρ, acc, he, h => by
    show ev (setV x (a i) ρ) elt fun v => comp1 x [] elt ev tv (r.map a) (setV x (a i) ρ) (acc ++ [v]) Q
    refine he i (.head _) _ (comp1_mapI a b r (setV x (a i) ρ) (acc ++ [b i]) (fun j hj Q' hq => ?_) fun ρ' => ?_)
    · rw [setV_setV]; exact he j (.tail _ hj) Q' hq
    · have := h ρ'
      simpa using this
/-- a comprehension whose items are known by a word alone -/
theorem comp1_dem {Q : List (Str × D) → List D → Prop} (R : D → Prop) : ∀ (items : List D) (ρ : List (Str × D)) (acc : List D),
    (∀ d ∈ items, ∀ Q' : D → Prop, (∀ v, R v → Q' v) → ev (setV x d ρ) elt Q') → (∀ ρ' vs, vs.length = items.length → (∀ v ∈ vs, R v) → Q ρ' (acc ++ vs)) → comp1 x [] elt ev tv items ρ acc Q
  | [], ρ, acc, _, h => by
    have := h ρ [] rfl (fun v hv => by cases hv)
    rw [List.append_nil] at this
    exact this
  | d :: r, ρ, acc, he, h => by
    show ev (setV x d ρ) elt fun v => comp1 x [] elt ev tv r (setV x d ρ) (acc ++ [v]) Q
    refine he d (.head _) _ fun v hv => comp1_dem R r (setV x d ρ) (acc ++ [v]) (fun d' hd' Q' hq => ?_) fun ρ' vs hl hvs => ?_
    · rw [setV_setV]; exact he d' (.tail _ hd') Q' hq
    · have := h ρ' (v :: vs) (by rw [List.length_cons, List.length_cons, hl]) (fun w hw => by
        rcases List.mem_cons.mp hw with rfl | hw
        · exact hv
        · exact hvs w hw)
      simpa using this
/-- a comprehension with a test over items that are told by a number -/
theorem comp1_filtI {ι : Type} {Q : List (Str × D) → List D → Prop} {c : Expr} (a : ι → D) (q : ι → Bool) (b : ι → D) : ∀ (is : List ι) (ρ : List (Str × D)) (acc : List D),
    (∀ i ∈ is, ∀ Q', Q' (q i) → tv (setV x (a i) ρ) c Q') → (∀ i ∈ is, q i = true → ∀ Q', Q' (b i) → ev (setV x (a i) ρ) elt Q') → (∀ ρ', Q ρ' (acc ++ (is.filter q).map b)) → comp1 x [c] elt ev tv (is.map a) ρ acc Q
  | [], ρ, acc, _, _, h => by
    have := h ρ
    rw [List.filter_nil, List.map_nil, List.append_nil] at this
    exact this
  | i :: r, ρ, acc, ht, he, h => by
    show tv (setV x (a i) ρ) c fun b' => bif b' then ev (setV x (a i) ρ) elt fun v => comp1 x [c] elt ev tv (r.map a) (setV x (a i) ρ) (acc ++ [v]) Q else comp1 x [c] elt ev tv (r.map a) (setV x (a i) ρ) acc Q
    refine ht i (.head _) _ ?_
    cases hq : q i with
    | true =>
      refine he i (.head _) hq _ (comp1_filtI a q b r (setV x (a i) ρ) (acc ++ [b i]) (fun j hj Q' hq => ?_) (fun j hj hq' Q' hq => ?_) fun ρ' => ?_)
      · rw [setV_setV]; exact ht j (.tail _ hj) Q' hq
      · rw [setV_setV]; exact he j (.tail _ hj) hq' Q' hq
      · have := h ρ'
        rw [List.filter_cons, if_pos hq] at this
        simpa using this
    | false =>
      refine comp1_filtI a q b r (setV x (a i) ρ) acc (fun j hj Q' hq => ?_) (fun j hj hq' Q' hq => ?_) fun ρ' => ?_
      · rw [setV_setV]; exact ht j (.tail _ hj) Q' hq
      · rw [setV_setV]; exact he j (.tail _ hj) hq' Q' hq
      · have := h ρ'
        rw [List.filter_cons, if_neg (by rw [hq]; simp)] at this
        exact this
end
theorem dem_gates : ∀ vs : List D, (∀ v ∈ vs, ∃ g ∈ allG, v = dG g) → ∃ gs : List (List Nat), vs = gs.map dG ∧ ∀ g ∈ gs, g ∈ allG
  | [], _ => ⟨[], rfl, fun g h => by cases h⟩
  | v :: vs, h => by
    obtain ⟨g, hg, rfl⟩ := h v (.head _)
    obtain ⟨gs, rfl, hgs⟩ := dem_gates vs fun w hw => h w (.tail _ hw)
    exact ⟨g :: gs, rfl, fun x hx => by
      rcases List.mem_cons.mp hx with rfl | hx
      · exact hg
      · exact hgs x hx⟩
theorem prs_map {α β : Type} (g : α → β) (f : Nat → Nat → α) : (prs f).map g = prs fun i j => g (f i j) := by
  unfold prs
  rw [List.map_flatMap]
  refine congrArg (fun k => List.flatMap k (List.range 16)) (funext fun i => ?_)
  rw [List.map_map]; rfl
theorem prs_congr {α : Type} {f g : Nat → Nat → α} (h : ∀ i j, i < 16 → j < i → f i j = g i j) : prs f = prs g := by
  unfold prs
  rw [List.flatMap_def, List.flatMap_def]
  refine congrArg List.flatten (List.map_congr_left fun i hi => List.map_congr_left fun j hj => ?_)
  exact h i j (List.mem_range.mp hi) (List.mem_range.mp hj)
theorem range120 : iterD (.range 0 120 1) = some ((List.range 120).map dN) := range_it (n := 120) (by decide)
theorem rLenB {g : List Nat} {Q : D → Prop} (hl : g.length ≤ 1000) (h : Q (dN g.length)) : biP (Str.ofString "len") [dB g] Q :=
  rLen (n := g.length) (congrArg some (bOf_size g)) (Nat.le_trans hl (by decide)) h
theorem cNeEq {a b : List D} {Q : Bool → Prop} (e : a = b) (hs : ∀ x ∈ a, sm 7 x x = true) (h : Q false) : cmpP .NotEq (.list a) (.list b) Q := by
  subst e
  refine cNeL (smAll_self hs) fun t ht => ?_
  obtain rfl : t = false := by
    cases t with
    | false => rfl
    | true => exact absurd rfl (ht.mp rfl)
  exact h
noncomputable def sHalves : Spec := fun ds Q => ∃ (r : Nat → Str) (l : Nat → Nat), (∀ i j, i < 16 → j < 16 → r i = r j → i = j) ∧ (∀ i, i < 16 → l i < 16) ∧ (∀ i j, i < 16 → j < 16 → l i = l j → i = j) ∧
  ds = [.list ((List.range 16).map fun i => .str (r (l i))), .list ((List.range 16).map fun i => .str (r i))] ∧ Q (.bool true)
noncomputable def sLaw : Spec := fun ds Q => ∃ ns : List Int, ns.length ≤ 63 ∧ ds = [.list (ns.map .int)] ∧ Q (.bool true)
end
section
set_option tactic.hygienic false
open Sem (wp)
open AutoSeq1 (wpAny_loadPart')
section
variable {prog : Program} {w : World} {A : Around} {E : Value → Shared → Prop} {s : Shared}

theorem next_tuple_item {it t : Addr} {i : Nat} {items : Array Value} {x : Value} {Q : Value → Shared → Prop} (hit : s.heap.IsTupleIter it t i) (ht : s.heap.IsTuple t items) (hx : items[i]? = some x)
    (hQ : ∀ h', h'.IsTupleIter it t (i + 1) → Heap.SameBut it s.heap h' → Q x { s with heap := h' }) : wpAny (model prog w) A (Builtin.SmallTypes.nextOf (.ref it)) Q E s := by
  obtain ⟨o, ho, hc, hd⟩ := id hit
  obtain ⟨ol, hol, _, nl, hdl⟩ := ht
  unfold Builtin.SmallTypes.nextOf
  refine wpAny_bind (wpAny_callSpecial?_slot (name := Str.ofString "__next__") hit.typeIs F.slot_tuple_iterator_next
    (wpAny_call_entry F.slot_tuple_iterator_next hit.typeIs F.entry_tuple_iterator_next ?_ (F.args_tuple_iterator_next_1 _)))
  show wpAny _ _ (field (.ref it) 0 >>= _) _ _ s
  refine wpAny_bind (wpAny_field ho hd (x := .ref t) rfl ?_)
  show wpAny _ _ (if (Value.ref t == Value.none) = true then _ else _) _ _ s
  rw [if_neg (show ¬ ((Value.ref t == Value.none) = true) from Bool.false_ne_true)]
  show wpAny _ _ (field (.ref it) 1 >>= _) _ _ s
  refine wpAny_bind (wpAny_field ho hd (x := .int i 0) rfl ?_)
  show wpAny _ _ (seqItems? (.ref t) >>= _) _ _ s
  refine wpAny_bind (wpAny_seqItems hol hdl ?_)
  simp only [Int.toNat_natCast, hx]
  refine wpAny_bind (wpAny_setField ho hd (by simp) (wpAny_pure ⟨x, rfl, wpAny_pure (hQ _ ?_ (Heap.SameBut.update ..))⟩))
  exact ⟨_, Heap.get?_update_self _ ho (Obj.isFreed_of_fields (Obj.data_mapFields hd _)), (Obj.cls_mapFields ..).trans hc, by
    rw [Obj.data_mapFields hd]; simp [rawInt]⟩

theorem next_tuple_end {it t : Addr} {i : Nat} {items : Array Value} {Q : Value → Shared → Prop} (hh : A.handled = none) (hit : s.heap.IsTupleIter it t i) (ht : s.heap.IsTuple t items) (hx : items[i]? = none)
    (hE : ∀ h' e, Heap.ExtBut it s.heap h' → (∃ o, h'.get? e = some o ∧ o.cls = .type "StopIteration") → E (.ref e) { s with heap := h' }) : wpAny (model prog w) A (Builtin.SmallTypes.nextOf (.ref it)) Q E s := by
  obtain ⟨o, ho, hc, hd⟩ := id hit
  obtain ⟨ol, hol, _, nl, hdl⟩ := ht
  unfold Builtin.SmallTypes.nextOf
  refine wpAny_bind (wpAny_callSpecial?_slot (name := Str.ofString "__next__") hit.typeIs F.slot_tuple_iterator_next
    (wpAny_call_entry F.slot_tuple_iterator_next hit.typeIs F.entry_tuple_iterator_next ?_ (F.args_tuple_iterator_next_1 _)))
  show wpAny _ _ (field (.ref it) 0 >>= _) _ _ s
  refine wpAny_bind (wpAny_field ho hd (x := .ref t) rfl ?_)
  show wpAny _ _ (if (Value.ref t == Value.none) = true then _ else _) _ _ s
  rw [if_neg (show ¬ ((Value.ref t == Value.none) = true) from Bool.false_ne_true)]
  show wpAny _ _ (field (.ref it) 1 >>= _) _ _ s
  refine wpAny_bind (wpAny_field ho hd (x := .int i 0) rfl ?_)
  show wpAny _ _ (seqItems? (.ref t) >>= _) _ _ s
  refine wpAny_bind (wpAny_seqItems hol hdl ?_)
  simp only [Int.toNat_natCast, hx]
  refine wpAny_bind (wpAny_rule (wpAny_bind (wpAny_setField ho hd (by simp) ?_)))
  show wpAny _ _ (newExc (.type "StopIteration") [] >>= _) _ _ _
  refine wpAny_bind ?_
  simp only [newExc, newTuple]
  refine wpAny_bind (wpAny_newObj_type ?_ (by size_fits))
  refine wpAny_bind (m := firstArgMember _ _) (wpAny_of_eq (a := Value.none) (by first | rfl | (simp only [firstArgMember]; rfl)) ?_)
  refine wpAny_newObj_type ?_ (by size_fits)
  simp only [raiseNew]
  refine wpAny_bind (wpAny_handled ?_)
  first | rw [show A.in1.handled = none from hh] | rw [hh]
  refine wpAny_bind (wpAny_pure (wpAny_throw ?_))
  exact hE _ _ (((Heap.SameBut.update ..).extBut.push _).push _) ⟨_, Heap.get?_push_size _ rfl, rfl⟩

theorem drawsTuple {A : Around} (hh : A.handled = none) (it l : Addr) (hne : l ≠ it) (items : Array Value) :
    Draws prog w A it [it, l] items.size (fun i v => items[i]? = some v) (fun i h => h.IsTupleIter it l i ∧ h.IsTuple l items) where
  live := fun _ _ st => let ⟨o, ho, _⟩ := st.1; ⟨o, ho⟩
  frame := fun _ _ _ st hk => ⟨st.1.at fun o e => hk it (by simp) o e, st.2.at fun o e => hk l (by simp) o e⟩
  item := fun i s Q E hi st hQ => by
    refine next_tuple_item st.1 st.2 (x := items[i]) (by simp [hi]) fun h' hit' hs' => ?_
    exact hQ _ h' s.toks (by simp [hi]) ⟨hit', st.2.extBut hs'.extBut hne⟩ hs'
  done := fun s Q E st hE => next_tuple_end hh st.1 st.2 (by simp) hE
end

set_option tactic.hygienic true in
theorem enum_newT (l : Addr) (items : Array Value) (n : Nat) (dct : Option Addr) (sl : Array (Option Value)) :
    Meets (Builtin.«enumerate.__new__» ⟨[.type "enumerate", .ref l], []⟩) (fun _ R s => s.heap.get? l = some { cls := .type "tuple", dict := dct, data := .seq items n, slots := sl } ∧
      R (.ok (.ret (.ref (s.heap.push { cls := .type "tuple_iterator", data := .fields #[.ref l, .int 0 0] }).objs.size)))
        { s with heap := (s.heap.push { cls := .type "tuple_iterator", data := .fields #[.ref l, .int 0 0] }).push { cls := .type "enumerate", data := .fields #[.none, .bool false, .ref s.heap.objs.size, rawInt 0, .none, .none] } }) :=
  .of_wp fun prog w A R s h => by
    obtain ⟨hp, g, d, tk, os⟩ := s; obtain ⟨hl, h⟩ := h
    have hsub := sub_enumerate
    have hL : Heap.IsTuple (Shared.heap ⟨hp, g, d, tk, os⟩) l items := ⟨_, hl, rfl, n, rfl⟩
    wp_walk using wpAny_loadPart' hl
    refine wpAny_stack_any fun st => wpAny_pure ?_
    split
    · rename_i c _ _ _ _ _
      cases (c == Value.type "enumerate")
      · wp_walk using wpAny_loadPart' hl, wpAny_pyIter_tuple hL
        exact ⟨_, rfl, h⟩
      · wp_walk using wpAny_loadPart' hl, wpAny_pyIter_tuple hL
        exact ⟨_, rfl, h⟩
    · wp_walk using wpAny_loadPart' hl, wpAny_pyIter_tuple hL
      exact ⟨_, rfl, h⟩

section
variable {prog : Program} {w : World} {A : Around} {E : Value → Shared → Prop} {s : Shared}
theorem call_enumT {l : Addr} {items : Array Value} {Q : Value → Shared → Prop} (hL : s.heap.IsTuple l items)
    (h : ∀ h', IsEnum h' (s.heap.objs.size + 1) s.heap.objs.size 0 .none → h'.IsTupleIter s.heap.objs.size l 0 → h'.objs.size = s.heap.objs.size + 2 →
      (∀ b o, s.heap.get? b = some o → h'.get? b = some o) → Q (.ref (s.heap.objs.size + 1)) { s with heap := h' }) :
    wpAny (model prog w) A (call (.type "enumerate") [.ref l]) Q E s := by
  obtain ⟨⟨c, dct, dt, sl⟩, hl, hc, n, hd⟩ := hL
  replace hc : c = .type "tuple" := hc
  replace hd : dt = .seq items n := hd
  subst hc hd
  refine callType_new F.called_enumerate (by decide) (F.typeCall_enumerate_1 _) (F.newCall_enumerate_1 _) (fun obj => F.args_object_init_2 obj _) F.entry_enumerate_new
    (enum_newT l items n dct sl) ⟨hl, ?_⟩
  have hz : (s.heap.push { cls := .type "tuple_iterator", data := .fields #[.ref l, .int 0 0] }).objs.size = s.heap.objs.size + 1 := Heap.size_push ..
  show _ ∧ _
  rw [hz]
  have he : IsEnum ((s.heap.push { cls := .type "tuple_iterator", data := .fields #[.ref l, .int 0 0] }).push
      { cls := .type "enumerate", data := .fields #[.none, .bool false, .ref s.heap.objs.size, rawInt 0, .none, .none] }) (s.heap.objs.size + 1) s.heap.objs.size 0 .none := by
    have := Heap.get?_push_size (s.heap.push { cls := .type "tuple_iterator", data := .fields #[.ref l, .int 0 0] })
      (o := { cls := .type "enumerate", data := .fields #[.none, .bool false, .ref s.heap.objs.size, rawInt 0, .none, .none] }) rfl
    rw [hz] at this; exact this
  refine ⟨⟨_, he, rfl⟩, h _ he ⟨_, Heap.get?_push_of_some _ (Heap.get?_push_size _ rfl), rfl, rfl⟩ (by rw [Heap.size_push, hz]) fun b o x => Heap.get?_push_of_some _ (Heap.get?_push_of_some _ x)⟩
end
end
section
set_option tactic.hygienic false
section
variable {Y : Sys} {T : Tab} {k : Nat} {A : Around} {E : Value → Shared → Prop} {s : Shared} {hid : Addr → Bool} {env : Env} {sc : Scope} {ρ : List (Str × D)}

/-- a change at hidden objects that are no part of the frame -/
theorem SSt.butL (Ok : SysOk Y) {h h' : Heap} {σ : Ab} {O : Option Addr} {L : List Addr} (S : SSt Y sc env hid h σ O) (kk : ∀ b o, b ∉ L → h.get? b = some o → h'.get? b = some o)
    (hA : ∀ I ∈ L, hid I = true ∧ (∃ o, h'.get? I = some o) ∧ I ≠ env.locals ∧ (∀ z, env.cells.lookup z ≠ some I) ∧ O ≠ some I ∧ Y.base.get? I = none ∧ I ≠ Y.P ∧ (∀ o, h.get? I = some o → notCode o)) : SSt Y sc env hid h' σ O := by
  have dk : ∀ {hid' : Addr → Bool}, (∀ I, hid I = true → hid' I = true) → ∀ b o, hid' b = false → h.get? b = some o → isDat o = true → h'.get? b = some o := fun hh b o hbb e hdt => kk b o (fun hm => by
    rw [hh b (hA b hm).1] at hbb; cases hbb) e
  have nL : env.locals ∉ L := fun hm => (hA _ hm).2.2.1 rfl
  have nC : ∀ z c, env.cells.lookup z = some c → c ∉ L := fun z c hz hm => (hA _ hm).2.2.2.1 z hz
  refine ⟨?_, ?_, ?_, ?_, ?_⟩
  · refine S.V.keep (fun o e => kk _ o nL e) (fun z c o hcz e => kk c o (nC z c hcz) e) ?_
    exact dk fun I q => by cases O with | none => exact q | some a => exact hide_of q
  · exact Ok.chg h h' L S.g (fun a ha => by obtain ⟨_, _, _, _, _, hb, hP, hn⟩ := hA a ha; exact ⟨hb, hP, hn⟩) fun b o hbb e => kk b o hbb e
  · exact ⟨S.H.p, fun b hbb => by
      by_cases q : b ∈ L
      · exact (hA b q).2.1
      · obtain ⟨o, e⟩ := S.H.live b hbb; exact ⟨o, kk b o q e⟩, S.H.cst⟩
  · obtain ⟨m, n⟩ := S.ns; exact ⟨m, n.at' fun o e => kk _ o nL e⟩
  · have ho := S.own
    cases O with
    | none => rw [ho.nil]; trivial
    | some a =>
      obtain ⟨x, xs, e⟩ := ho.addr
      rw [e] at ho ⊢
      obtain ⟨h1, h2, h3, h4, h5, h6, vs, il, pl, rl⟩ := ho
      have ne : a ∉ L := fun hm => (hA a hm).2.2.2.2.1 rfl
      refine ⟨h1, ?_, h3, h4, h5, h6, vs, il.at fun o e => kk a o ne e, (fun hp => (pl hp).at fun o e => kk a o ne e), rl.mono fun b o ho e => by obtain ⟨e1, e2⟩ := vis_get e; exact vis_of (dk (fun I q => hide_of q) b o e2 e1 ho) e2⟩
      rcases h2 with ⟨q, m', n2, hm⟩ | ⟨q, hdd, c, e2, o, e3, d3⟩
      · exact .inl ⟨q, m', n2.at' fun o e => kk _ o nL e, hm⟩
      · exact .inr ⟨q, hdd, c, e2, o, kk c o (nC x c e2) e3, d3⟩

theorem RepL.unhideO {h : Heap} {O : Option Addr} {v : List Value} {d : List D} (r : RepL (vis h (hidO hid O)) v d) : RepL (vis h hid) v d := by
  cases O with
  | none => exact r
  | some a => exact r.unhide
theorem repL_kpf {h h' : Heap} {σ : Ab} {O O' : Option Addr} {vs : List Value} {ds : List D} (S : SSt Y sc env hid h σ O) (kf : KpF Y env O h h') (c : ∀ a, O' = some a → O = some a ∨ h.get? a = none) (r : RepL (vis h (hidO hid O)) vs ds) : RepL (vis h' (hidO hid O')) vs ds := by
  have f1 : RepL (vis h' (hidO hid O)) vs ds := r.mono fun b o hd e => by obtain ⟨e1, e2⟩ := vis_get e; exact vis_of (dat_kpf S kf b o e2 hd e1) e2
  cases O' with
  | none => exact f1.unhideO
  | some a =>
    rcases c a rfl with rfl | ha
    · exact f1
    · have f2 : RepL (vis h' (Mine.hide (hidO hid O) a)) vs ds := (r.hide_fresh ha).mono fun b o hd e => by obtain ⟨e1, e2⟩ := vis_get e; exact vis_of (dat_kpf S kf b o (hide_false e2).1 hd e1) e2
      rw [← hidO_hide] at f2
      exact f2.unhideO

/-- the pairs of an enumerate -/
noncomputable def enumD : Nat → List D → List D
  | _, [] => []
  | i, d :: r => .tuple [.int (i : Int), d] :: enumD (i + 1) r

theorem enum_nc {h : Heap} {e it : Addr} {i : Int} {old : Value} (he : IsEnum h e it i old) : ∀ o, h.get? e = some o → notCode o := fun o eo => by
  have he' : h.get? e = _ := he
  rw [he'] at eo
  cases eo
  intro vs q t hv
  cases hv
  simp
theorem iter_nc {h : Heap} {it l : Addr} {i : Nat} (ht : h.IsTupleIter it l i) : ∀ o, h.get? it = some o → notCode o := fun o eo => by
  obtain ⟨o', e', c', d'⟩ := ht
  rw [e'] at eo
  cases eo
  intro vs q t hv
  rw [d'] at hv
  cases hv
  simp

/-- the state ahead of one draw of the enumerate -/
structure EnI (Y : Sys) (T : Tab) (m m' : Nat) (sc : Scope) (env : Env) (hid : Addr → Bool) (b o : List Stmt) (tg : Expr) (Q : Fl → Ab → Prop) (s₀ : Shared) (O₀ : Option Addr) (e it l : Addr) (items : Array Value) (j : Nat) (rest : List D) (σ : Ab) (O : Option Addr) (old : Value) (s : Shared) : Prop where
  S : SSt Y sc env (hide (hide hid e) it) s.heap σ O
  he : IsEnum s.heap e it j old
  hit : s.heap.IsTupleIter it l j
  hl : s.heap.IsTuple l items
  hj : j ≤ items.size
  hrep : RepL (vis s.heap (hidO (hide (hide hid e) it) O)) (items.toList.drop j) rest
  p : forP (fun σ' => wpSs T m sc b σ') (fun σ' => wpSs T m' sc o σ') (bindT sc tg) (enumD j rest) σ Q
  L : LAp Y env s.heap O e [it, l]
  e0 : ∃ h tk, s = { s₀ with heap := h, toks := tk }
  kf0 : KpF Y env O₀ s₀.heap s.heap
  lv0 : Lv s₀.heap s.heap
  c0 : ∀ a, O = some a → O₀ = some a ∨ s₀.heap.get? a = none
theorem mem2 {b e it : Addr} (h : b ∈ [e, it]) : b = e ∨ b = it := by
  cases h with
  | head => exact .inl rfl
  | tail _ h => exact .inr (List.mem_singleton.mp h)
theorem mem2E {e it : Addr} {C : Addr → Prop} (he : C e) (hi : C it) : ∀ b ∈ [e, it], C b := fun b h => (mem2 h).elim (fun q => q ▸ he) fun q => q ▸ hi
theorem RepL.hd {g : View} {v : Value} {vs : List Value} {d : D} {ds : List D} (r : RepL g (v :: vs) (d :: ds)) : Rep g v d := by cases r; assumption
theorem RepL.tl {g : View} {v : Value} {vs : List Value} {d : D} {ds : List D} (r : RepL g (v :: vs) (d :: ds)) : RepL g vs ds := by cases r; assumption
theorem nm2 {b e it : Addr} (h : b ∉ [e, it]) : b ≠ e ∧ b ≠ it := ⟨fun q => h (q ▸ .head _), fun q => h (q ▸ .tail _ (.head _))⟩
theorem fresh_ne {h : Heap} {b e : Addr} {o : Obj} (fe : h.get? e = none) (eb : h.get? b = some o) : b ≠ e := fun q => by rw [q, fe] at eb; cases eb
theorem fresh_nm {h : Heap} {b e it : Addr} {o : Obj} (fe : h.get? e = none) (fi : h.get? it = none) (eb : h.get? b = some o) : b ∉ [e, it] := fun q => (mem2 q).elim (fresh_ne fe eb) (fresh_ne fi eb)
theorem vis_up {h h2 : Heap} {L : List Addr} {H : Addr → Bool} (kk : ∀ b o, b ∉ L → h.get? b = some o → h2.get? b = some o) (hH : ∀ b ∈ L, H b = true) (b : Addr) (o : Obj) (eb : vis h H b = some o) : vis h2 H b = some o := by
  obtain ⟨q1, q2⟩ := vis_get eb
  exact vis_of (kk b o (fun hm => by rw [hH b hm] at q2; cases q2) q1) q2
theorem hidO_of {H : Addr → Bool} {O : Option Addr} {b : Addr} (h : H b = true) : hidO H O b = true := by
  cases O with
  | none => exact h
  | some a => exact hide_of h
theorem drop_end {items : Array Value} {j : Nat} (hj : j ≤ items.size) (h : (items.toList.drop j).length = 0) : j = items.size := by
  rw [List.length_drop, Array.length_toList] at h
  exact Nat.le_antisymm hj (Nat.le_of_sub_eq_zero h)
theorem drop_lt {items : Array Value} {j n : Nat} (h : (items.toList.drop j).length = n + 1) : j < items.size := by
  rw [List.length_drop, Array.length_toList] at h
  exact Nat.lt_of_sub_pos (h ▸ Nat.succ_pos n)
theorem drop_at {items : Array Value} {j : Nat} {x : Value} (hx : items[j]? = some x) : items.toList.drop j = x :: items.toList.drop (j + 1) := by
  obtain ⟨h, e⟩ := Array.getElem?_eq_some_iff.mp hx
  rw [List.drop_eq_getElem_cons (Array.length_toList ▸ h), Array.getElem_toList, e]

theorem enum_loop (Ok : SysOk Y) {m m' : Nat} (hb : SndSs Y k T m) (ho : SndSs Y k T m') {y z : Str} {py pz pt : Pos} {x1 : Nat} {b o : List Stmt} (F : SFr Y env) (R : Room k A) {Q : Fl → Ab → Prop} {s₀ : Shared} {O₀ : Option Addr} {e it l : Addr} {items : Array Value}
    (fe : s₀.heap.get? e = none) (fi : s₀.heap.get? it = none) (be : Y.base.get? e = none) (bi : Y.base.get? it = none) (H0 : HidOk Y hid s₀.heap) (hei : e ≠ it) (hle : l ≠ e) (hli : l ≠ it) (heP : e ≠ Y.P) (hiP : it ≠ Y.P) (hlP : l ≠ Y.P)
    (rest : List D) (σ : Ab) (O : Option Addr) (J : EnI Y T m m' sc env hid b o (.Tuple [.Name y py, .Name z pz] x1 pt) Q s₀ O₀ e it l items 0 rest σ O .none s) :
    codeAny (model Y.prog Y.w) A (.forLoop (.Tuple [.Name y py, .Name z pz] x1 pt) (.ref e) b o env) (fun r s' => match r with | .ok f => PostS Y sc env hid O₀ s₀ Q f s' | .error x => cameBackBy (model Y.prog Y.w) A env E x s') s := by
  have DW := drawsTuple (prog := Y.prog) (w := Y.w) (A := A.in1) R.h it l hli items
  refine codeAny_forLoop_any (fun i s => ∃ (j : Nat) (rest : List D) (σ : Ab) (O : Option Addr) (old : Value), i = rest.length ∧ EnI Y T m m' sc env hid b o (.Tuple [.Name y py, .Name z pz] x1 pt) Q s₀ O₀ e it l items j rest σ O old s) ?_ rest.length ⟨0, rest, σ, O, .none, rfl, J⟩
  clear J
  rintro i s ⟨j, rest, σ, O, old, hi, J⟩
  obtain ⟨eL, eC, eO, oe, ee⟩ := J.L.ap e (.head _)
  obtain ⟨iL, iC, iO, oi, ei⟩ := J.L.ap it (.tail _ (.head _))
  obtain ⟨h0, tk0, e0⟩ := J.e0
  have he1 : hide (hide hid e) it e = true := hide_of (hide_self _ _)
  have hi1 : hide (hide hid e) it it = true := hide_self _ _
  cases rest with
  | nil =>
    have hsz : j = items.size := drop_end J.hj J.hrep.length
    refine wpAny_pyNext_enum_endD DW J.he ⟨hsz ▸ J.hit, J.hl⟩ fun h1 hx => ?_
    have Su : SSt Y sc env (hide hid it) s.heap σ O := by
      have S := J.S
      rw [hide_comm] at S
      exact S.unhide ⟨hide_of H0.p, fun b hb => S.H.live b (hide_of hb), fun b hb => (hide_false (S.H.cst b hb)).1⟩
    have kk : ∀ b o, b ≠ it → s.heap.get? b = some o → h1.get? b = some o := fun b o hb e => hx b o hb e
    have H1 : HidOk Y hid h1 := ⟨H0.p, fun b hb => by
      obtain ⟨o, e⟩ := Su.H.live b (hide_of hb)
      exact ⟨o, kk b o (fun q => by rw [q, H0.fresh fi] at hb; cases hb) e⟩, H0.cst⟩
    have S1 := Su.spent Ok kk H1 iL iC iO bi hiP (iter_nc J.hit)
    refine wpAny_mono (ho sc o σ Q A { s with heap := h1 } env hid O _ J.p F S1 R) (fun fl s' z => ?_) fun _ _ x => x
    exact z.after (by rw [e0]) (fun b o hP hbb eb => kk b o (fresh_ne fi eb) (J.kf0 b o hP hbb eb)) (fun b o eb => by
      obtain ⟨o', e'⟩ := J.lv0 b o eb
      exact ⟨o', kk b o' (fresh_ne fi eb) e'⟩) J.c0
  | cons d rest =>
    have hlt : j < items.size := drop_lt J.hrep.length
    refine wpAny_pyNext_enum_itemD DW J.he ⟨J.hit, J.hl⟩ hlt hei (fun q => (mem2 q).elim hei fun q => hle q.symm) fun x h1 tk hx heo hst ht hz hk => ?_
    refine wpAny_letOwnedTupleGo_enum heo fun h2 he2 hs2 => ?_
    replace hs2 : Heap.SameBut e h1 h2 := hs2
    have hrep := J.hrep
    rw [drop_at hx] at hrep
    have kk2 : ∀ b o, b ∉ [e, it] → s.heap.get? b = some o → h2.get? b = some o := fun b o hb eb => hs2.extBut b o (nm2 hb).1 (hk b o (nm2 hb).1 (nm2 hb).2 eb)
    have hit2 : h2.IsTupleIter it l (j + 1) := hst.1.at fun o eb => hs2.extBut it o hei.symm eb
    have hl2 : h2.IsTuple l items := hst.2.at fun o eb => hs2.extBut l o hle eb
    have lit : ∃ o, h2.get? it = some o := let ⟨o, q, _⟩ := hit2; ⟨o, q⟩
    have S2 := J.S.butL Ok kk2 (mem2E ⟨he1, ⟨_, he2⟩, eL, eC, eO, be, heP, enum_nc J.he⟩ ⟨hi1, lit, iL, iC, iO, bi, hiP, iter_nc J.hit⟩)
    have up2 := fun b o (_ : isDat o = true) => vis_up (h := s.heap) (h2 := h2) (L := [e, it]) (H := hidO (hide (hide hid e) it) O) kk2 (mem2E (hidO_of he1) (hidO_of hi1)) b o
    have ht2 : h2.get? s.heap.objs.size = some { cls := .type "tuple", data := .seq #[.int j tk, x] } := hs2.extBut _ _ (Nat.ne_of_gt (Heap.lt_size J.he)) ht
    have rT : Rep (vis h2 (hidO (hide (hide hid e) it) O)) (.ref s.heap.objs.size) (.tuple [.int (j : Int), d]) :=
      .tuple (vis_of ht2 ((J.S.hidO Ok).fresh (get_size _))) rfl (by rfl) (.cons (.int _ _) (.cons (hrep.hd.mono up2) .nil))
    have rr2 : RepL (vis h2 (hidO (hide (hide hid e) it) O)) (items.toList.drop (j + 1)) rest := hrep.tl.mono up2
    have lv2 : Lv s.heap h2 := fun b o eb => by
      by_cases q : b ∈ [e, it]
      · exact mem2E (C := fun b => ∃ o, h2.get? b = some o) ⟨_, he2⟩ lit b q
      · exact ⟨o, kk2 b o q eb⟩
    have kf1 : KpF Y env O₀ s₀.heap h2 := fun b o hP hbb eb => kk2 b o (fresh_nm fe fi eb) (J.kf0 b o hP hbb eb)
    have L2 : LAp Y env h2 O e [it, l] := ⟨fun b hb => by
      obtain ⟨a1, a2, a3, o, eo⟩ := J.L.ap b hb
      exact ⟨a1, a2, a3, lv2 b o eo⟩⟩
    have p := J.p
    have lv1 : Lv s₀.heap h2 := J.lv0.trans lv2
    have c0 := J.c0
    clear hk hs2 heo hst ht ht2 hrep hx kk2 up2 lv2 J hz
    unfold enumD forP at p
    cases hbd : bindT sc (.Tuple [.Name y py, .Name z pz] x1 pt) (.tuple [.int (j : Int), d]) σ with
    | none => rw [hbd] at p; exact p.elim
    | some σ1 =>
      rw [hbd] at p
      refine bind_sound (s := { s with heap := h2, toks := tk + 1 }) Ok F hbd S2 rT R.h fun h3 tk3 O3 kf3 lv3 S3 c3 => ?_
      have c3' : ∀ a, O3 = some a → O = some a ∨ h2.get? a = none := fun a e => .inl (by
        rcases c3 with c3 | c3
        · rw [← c3]; exact e
        · rw [c3] at e; cases e)
      have rr3 := repL_kpf S2 kf3 c3' rr2
      have L3 := L2.kpf lv3 c3'
      have kfA := kpx_trans kf1 c0 kf3
      have lvA := lv1.trans lv3
      have cA := own_trans lv1 c0 c3'
      have up : ∀ {h4 : Heap}, KpF Y env O3 h3 h4 → ∀ b ∈ e :: [it, l], b ≠ Y.P → ∀ o, h2.get? b = some o → h4.get? b = some o := fun kf4 b hb hP o eb => by
        obtain ⟨a1, a2, a3, _⟩ := L2.ap b hb
        obtain ⟨b1, b2, b3, _⟩ := L3.ap b hb
        exact kf4 b o hP ⟨b1, b2, b3⟩ (kf3 b o hP ⟨a1, a2, a3⟩ eb)
      have nx : ∀ {h4 : Heap} {tk4 : Tok} {σ4 : Ab} {O4 : Option Addr}, KpF Y env O3 h3 h4 → Lv h3 h4 → SSt Y sc env (hide (hide hid e) it) h4 σ4 O4 → (∀ a, O4 = some a → O3 = some a ∨ h3.get? a = none) →
          forP (fun σ' => wpSs T m sc b σ') (fun σ' => wpSs T m' sc o σ') (bindT sc (.Tuple [.Name y py, .Name z pz] x1 pt)) (enumD (j + 1) rest) σ4 Q →
          EnI Y T m m' sc env hid b o (.Tuple [.Name y py, .Name z pz] x1 pt) Q s₀ O₀ e it l items (j + 1) rest σ4 O4 x { s with heap := h4, toks := tk4 } := fun kf4 lv4 S4 c4 q =>
        ⟨S4, by rw [Int.natCast_add]; exact up kf4 e (.head _) heP _ he2, hit2.at (up kf4 it (.tail _ (.head _)) hiP), hl2.at (up kf4 l (.tail _ (.tail _ (.head _))) hlP), hlt, repL_kpf S3 kf4 c4 rr3, q, L3.kpf lv4 c4, ⟨_, _, by rw [e0]⟩, kpx_trans kfA cA kf4, lvA.trans lv4, own_trans lvA cA c4⟩
      have un : ∀ {h4 : Heap} {σ4 : Ab} {O4 : Option Addr}, SSt Y sc env (hide (hide hid e) it) h4 σ4 O4 → SSt Y sc env hid h4 σ4 O4 := fun S4 =>
        (S4.unhide ⟨hide_of H0.p, fun b hb => S4.H.live b (hide_of hb), fun b hb => (hide_false (S4.H.cst b hb)).1⟩).unhide ⟨H0.p, fun b hb => S4.H.live b (hide_of (hide_of hb)), H0.cst⟩
      refine wpAny_mono (hb sc b σ1 _ A { s with heap := h3, toks := tk3 } env (hide (hide hid e) it) O3 _ p F S3 R) (fun fl s' z => ?_) fun _ _ x => x
      refine PostS.elim z (fun h4 tk4 σ4 O4 kf4 lv4 S4 c4 q => ?_) (fun h4 tk4 σ4 O4 kf4 lv4 S4 c4 q => ?_) (fun h4 tk4 σ4 O4 kf4 lv4 S4 c4 q => ?_) fun h4 tk4 σ4 O4 v d kf4 lv4 S4 c4 fr q => ?_
      · exact ⟨rest.length, by rw [hi]; exact Nat.lt_succ_self _, j + 1, rest, σ4, O4, x, rfl, nx kf4 lv4 S4 c4 q⟩
      · rw [e0]; exact .next (kpx_trans kfA cA kf4) (lvA.trans lv4) (un S4) (own_trans lvA cA c4) q
      · exact ⟨rest.length, by rw [hi]; exact Nat.lt_succ_self _, j + 1, rest, σ4, O4, x, rfl, nx kf4 lv4 S4 c4 q⟩
      · rw [e0]; exact .ret (kpx_trans kfA cA kf4) (lvA.trans lv4) (un S4) (own_trans lvA cA c4) (Rep.unhide (Rep.unhide fr)) q
end
end
section
set_option tactic.hygienic false
section
variable {Y : Sys} {T : Tab} {k : Nat} {A : Around} {E : Value → Shared → Prop} {s : Shared} {hid : Addr → Bool} {env : Env} {sc : Scope} {ρ : List (Str × D)}

theorem c_forEnum (Ok : SysOk Y) (TO : TabOk Y k T) {n m m' : Nat} (hb : SndSs Y k T m) (ho : SndSs Y k T m') {σ : Ab} {O : Option Addr} {y z : Str} {py pz pt pf pc pos : Pos} {x1 : Nat} {arg : Expr} {b o : List Stmt} {Q : Fl → Ab → Prop}
    (hg : globalKind sc (Str.ofString "enumerate") = true) (harg : okArg arg = true)
    (p : wpE T n sc σ.vars arg fun d => ∃ xs, d = .tuple xs ∧ forP (fun σ' => wpSs T m sc b σ') (fun σ' => wpSs T m' sc o σ') (bindT sc (.Tuple [.Name y py, .Name z pz] x1 pt)) (enumD 0 xs) σ Q)
    (F : SFr Y env) (S : SSt Y sc env hid s.heap σ O) (R : Room k A) :
    wpAny (model Y.prog Y.w) A (exec (.For (.Tuple [.Name y py, .Name z pz] x1 pt) (.Call (.Name (Str.ofString "enumerate") pf) [arg] [] pc) b o pos) env) (PostS Y sc env hid O s Q) E s := by
  refine wpAny_For ?_ (fun _ => rfl)
  refine wpAny_Call_NameR ?_
  have hfv : biVal (Str.ofString "enumerate") = some (.type "enumerate") := by decide +kernel
  refine load_bi Ok S.V S.g hg (by decide +kernel) hfv ?_
  refine call_args (ev := wpE T n sc σ.vars) (Q1 := fun ds => ∃ xs, ds = [.tuple xs] ∧ forP (fun σ' => wpSs T m sc b σ') (fun σ' => wpSs T m' sc o σ') (bindT sc (.Tuple [.Name y py, .Name z pz] x1 pt)) (enumD 0 xs) σ Q) (PH := fun _ => True) Ok (wpE_sound Ok TO n sc σ.vars) (by simp) (by simp [harg]) ⟨harg, ?_⟩ S.V S.g (S.hidO Ok) R (mach (biVal_ref hfv)) fun vs s1 ds u1 r1 q1 => ⟨trivial, ?_⟩
  · show wpE T n sc σ.vars arg fun d => ∃ xs, [d] = [D.tuple xs] ∧ _
    refine cast (congrArg (wpE T n sc σ.vars arg) ?_) p
    funext d
    refine propext ⟨fun ⟨xs, e, h⟩ => ⟨xs, by rw [e], h⟩, fun ⟨xs, e, h⟩ => ⟨xs, by injection e, h⟩⟩
  obtain ⟨xs, rfl, q⟩ := q1
  cases r1 with
  | cons rt rn =>
  cases rn
  cases rt with
  | @tuple l ol vs nn _ hl c e rr =>
  have hlT := rep_isTuple hl c e
  have S1 := S.up Ok u1.kp u1.g
  obtain ⟨h1, tk1, rfl, kp1, g1⟩ := id u1
  show wpAny _ A (call (.type "enumerate") ([] ++ [.ref l])) _ _ _
  refine call_enumT (s := { s with heap := h1, toks := tk1 }) hlT fun h2 he hit hz kk => ?_
  change ∀ b o, h1.get? b = some o → h2.get? b = some o at kk
  change IsEnum h2 (h1.objs.size + 1) h1.objs.size 0 .none at he
  change h2.IsTupleIter h1.objs.size l 0 at hit
  refine wpAny_pyIter_enum (s := { s with heap := h2, toks := tk1 }) he ?_
  show codeAny _ A (.forLoop _ (.ref (h1.objs.size + 1)) b o env) _ _
  have fi1 : h1.get? h1.objs.size = none := get_size _
  have fe1 : h1.get? (h1.objs.size + 1) = none := by
    cases q : h1.get? (h1.objs.size + 1) with
    | none => rfl
    | some o => exact absurd (Heap.lt_size q : h1.objs.size + 1 < h1.objs.size) (Nat.not_lt.mpr (Nat.le_succ _))
  obtain ⟨oi, ei, ci, di⟩ := id hit
  have hfree : oi.isFreed = false := Obj.isFreed_of_fields di
  -- the frame, the two iterators hidden
  have Sa : SSt Y sc env (hide hid h1.objs.size) (h1.push oi) σ O := SSt.hide Ok S1 fi1 (fun b o eb => Heap.get?_push_of_some _ eb) ⟨oi, Heap.get?_push_size _ hfree⟩
  have fe2 : (h1.push oi).get? (h1.objs.size + 1) = none := by
    cases q : (h1.push oi).get? (h1.objs.size + 1) with
    | none => rfl
    | some o =>
      have q2 := Heap.lt_size q
      rw [Heap.size_push] at q2
      exact absurd (q2 : h1.objs.size + 1 < h1.objs.size + 1) (Nat.lt_irrefl _)
  have Sb : SSt Y sc env (hide (hide hid h1.objs.size) (h1.objs.size + 1)) h2 σ O := SSt.hide Ok Sa fe2 (fun b o eb => by
    rcases Heap.get?_push_cases eb with ⟨rfl, rfl⟩ | eb
    · exact ei
    · exact kk b o eb) ⟨_, he⟩
  rw [hide_comm] at Sb
  have mono : ∀ b, h1.get? b = none → s.heap.get? b = none := fun b hb => by
    cases q : s.heap.get? b with
    | none => rfl
    | some o =>
      by_cases hP : b = Y.P
      · subst hP
        obtain ⟨ps, ep⟩ := Ok.tab _ g1
        rw [hb] at ep; cases ep
      · have := kp1 b o hP q
        rw [hb] at this; cases this
  have ptab := Ok.tab _ g1
  have neP : ∀ b, h1.get? b = none → b ≠ Y.P := fun b hb hP => by
    obtain ⟨ps, ep⟩ := ptab
    rw [← hP, hb] at ep; cases ep
  have hlg := vis_get hl
  have hlP : l ≠ Y.P := by
    rintro rfl
    have := hidO_p (O := O) S1.H.p
    rw [this] at hlg; cases hlg.2
  have hli : l ≠ h1.objs.size := Nat.ne_of_lt (Heap.lt_size hlg.1)
  have hle : l ≠ h1.objs.size + 1 := Nat.ne_of_lt (Nat.lt_succ_of_lt (Heap.lt_size hlg.1 : l < h1.objs.size))
  have hl2 : h2.IsTuple l vs.toArray := hlT.at fun o eb => kk l o eb
  have rr2 : RepL (vis h2 (hidO (hide (hide hid (h1.objs.size + 1)) h1.objs.size) O)) vs xs := by
    rw [hidO_hide, hidO_hide]
    exact (((rr.hide_fresh fe1).hide_fresh fi1).mono fun b o _ eb => by obtain ⟨q1, q2⟩ := vis_get eb; exact vis_of (kk b o q1) q2)
  have L2 : LAp Y env h2 O (h1.objs.size + 1) [h1.objs.size, l] := ⟨fun b hb => by
    have hl' : ∃ o, h2.get? b = some o := by
      simp only [List.mem_cons, List.not_mem_nil, or_false] at hb
      rcases hb with rfl | rfl | rfl
      · exact ⟨_, he⟩
      · exact ⟨oi, ei⟩
      · exact ⟨_, kk _ _ hlg.1⟩
    have fr : h1.get? b = none ∨ (b = l) := by
      simp only [List.mem_cons, List.not_mem_nil, or_false] at hb
      rcases hb with rfl | rfl | rfl
      · exact .inl fe1
      · exact .inl fi1
      · exact .inr rfl
    refine ⟨?_, fun z' hz' => ?_, ?_, hl'⟩
    · rintro rfl
      obtain ⟨mm, nm⟩ := S1.ns
      rcases fr with fr | rfl
      · obtain ⟨o, _, _, e, _⟩ := nm
        rw [fr] at e; cases e
      · have := ns_isDat nm ol hlg.1
        simp [isDat, e] at this
    · obtain ⟨v, nc⟩ := S1.V.cellAt z' b hz'
      rcases fr with fr | rfl
      · obtain ⟨o, e, _⟩ := nc
        rw [fr] at e; cases e
      · have := cell_isDat nc ol hlg.1
        simp [isDat, e] at this
    · rintro rfl
      rcases fr with fr | rfl
      · obtain ⟨x, xs', e⟩ := S1.own.addr
        have ho := S1.own
        rw [e] at ho
        obtain ⟨_, _, _, _, _, _, vs', ⟨o, e, _⟩, _⟩ := ho
        rw [fr] at e; cases e
      · have := hlg.2
        rw [show hidO hid (some b) b = true from hide_self _ _] at this; cases this⟩
  refine enum_loop (s₀ := s) (O₀ := O) Ok hb ho F R (mono _ fe1) (mono _ fi1) (Ok.fresh _ _ g1 fe1) (Ok.fresh _ _ g1 fi1) S.H (Nat.succ_ne_self _) hle hli (neP _ fe1) (neP _ fi1) hlP xs σ O ⟨Sb, he, hit, hl2, Nat.zero_le _, rr2, q, L2, ⟨h2, tk1, rfl⟩, fun b o hP hbb eb => kk b o (kp1 b o hP eb), fun b o eb => ?_, fun a ea => .inl ea⟩
  obtain ⟨o', e'⟩ := Lv.kp Ok kp1 g1 b o eb
  exact ⟨o', kk b o' e'⟩
end
end
section
set_option tactic.hygienic false
/-- the tables of filemode -/
noncomputable def tabs : List (List (Nat × Nat)) := [[(40960, 108), (49152, 115), (32768, 45), (24576, 98), (16384, 100), (8192, 99), (4096, 112)], [(256, 114)], [(128, 119)], [(2112, 115), (2048, 83), (64, 120)], [(32, 114)], [(16, 119)], [(1032, 115), (1024, 83), (8, 120)], [(4, 114)], [(2, 119)], [(513, 116), (512, 84), (1, 120)]]
noncomputable def entryD (e : Nat × Nat) : D := .tuple [.int (e.1 : Int), .str (strOf [e.2])]
noncomputable def tabD (t : List (Nat × Nat)) : D := .tuple (t.map entryD)
noncomputable def hitT (j m b : Nat) : Bool := bif j == 0 then Builtin.bitAnd (m : Int) 61440 == (b : Int) else Builtin.bitAnd (m : Int) (b : Int) == (b : Int)
noncomputable def pickT (j m : Nat) : List (Nat × Nat) → Nat
  | [] => bif j == 0 then 63 else 45
  | (b, c) :: r => bif hitT j m b then c else pickT j m r
noncomputable def picks (m : Nat) : Nat → List (List (Nat × Nat)) → List Nat
  | _, [] => []
  | j, t :: r => pickT j m t :: picks m (j + 1) r
theorem bifIf {α : Type} (p : Prop) [Decidable p] (a b : α) : (bif decide p then a else b) = if p then a else b := by
  by_cases h : p
  · rw [decide_eq_true h, if_pos h]; rfl
  · rw [decide_eq_false h, if_neg h]; rfl
theorem hit0 (m b : Nat) : hitT 0 m b = decide (4096 * (m / 4096 % 16) = b) := by
  show (Builtin.bitAnd (m : Int) 61440 == (b : Int)) = _
  rw [ba_61440, e9L, Bool.eq_iff_iff, beq_iff_eq, decide_eq_true_eq, Int.natCast_inj]
theorem hit1 (j m b k : Nat) (hj : (j == 0) = false) (hb : b = 2 ^ k) : hitT j m b = decide (m / b % 2 = 1) := by
  unfold hitT
  rw [hj]
  show (Builtin.bitAnd (m : Int) (b : Int) == (b : Int)) = _
  rw [ba_p (m : Int) k (b : Int) (by rw [hb]; push_cast; rfl), Bool.eq_iff_iff, beq_iff_eq, decide_eq_true_eq]
  have hp : 0 < b := by rw [hb]; exact Nat.two_pow_pos k
  have e : ((m : Int) / (b : Int) % 2) = ((m / b % 2 : Nat) : Int) := by push_cast; rfl
  rw [e]
  have h2 : m / b % 2 = 0 ∨ m / b % 2 = 1 := by (first | lia | omega)
  rcases h2 with h | h
  · rw [h]
    constructor
    · intro h; simp at h; (first | lia | omega)
    · intro h; (first | lia | omega)
  · rw [h]; simp
theorem hit2 {m k i b : Nat} (j : Nat) (hj : (j == 0) = false) (hb : b = 2 ^ k * (2 * 2 ^ i + 1)) : hitT j m b = decide (m / 2 ^ k % 2 = 1 ∧ m / 2 ^ k / 2 / 2 ^ i % 2 = 1) := by
  unfold hitT
  rw [hj]
  show (Builtin.bitAnd (m : Int) (b : Int) == (b : Int)) = _
  have e : Builtin.bitAnd (m : Int) (b : Int) = ((2 ^ k * (2 * (m / 2 ^ k / 2 / 2 ^ i % 2 * 2 ^ i) + m / 2 ^ k % 2) : Nat) : Int) := by
    rw [hb]
    push_cast
    rw [ba_shl, ba_odd, ba_p _ i _ rfl]
  have hp : 0 < 2 ^ i := Nat.two_pow_pos i
  rw [e, Bool.eq_iff_iff, beq_iff_eq, decide_eq_true_eq, Int.natCast_inj, hb, Nat.mul_right_inj (Nat.ne_of_gt (Nat.two_pow_pos k))]
  rcases Nat.mod_two_eq_zero_or_one (m / 2 ^ k / 2 / 2 ^ i) with h | h <;> rcases Nat.mod_two_eq_zero_or_one (m / 2 ^ k) with h' | h' <;> rw [h, h'] <;> (first | lia | omega)
theorem dd3 (m a b c : Nat) : m / a / b / c = m / (a * b * c) := by rw [Nat.div_div_eq_div_mul, Nat.div_div_eq_div_mul, Nat.mul_assoc]
theorem hitA (j m : Nat) (hj : (j == 0) = false) : hitT j m 2112 = decide (m / 64 % 2 = 1 ∧ m / 2048 % 2 = 1) := by
  have := hit2 (m := m) (k := 6) (i := 4) j hj rfl
  rw [dd3] at this; exact this
theorem hitB (j m : Nat) (hj : (j == 0) = false) : hitT j m 1032 = decide (m / 8 % 2 = 1 ∧ m / 1024 % 2 = 1) := by
  have := hit2 (m := m) (k := 3) (i := 6) j hj rfl
  rw [dd3] at this; exact this
theorem hitC (j m : Nat) (hj : (j == 0) = false) : hitT j m 513 = decide (m % 2 = 1 ∧ m / 512 % 2 = 1) := by
  have := hit2 (m := m) (k := 0) (i := 8) j hj rfl
  rw [dd3, Nat.pow_zero, Nat.div_one] at this; exact this
theorem pick0 (m : Nat) : pickT 0 m [(40960, 108), (49152, 115), (32768, 45), (24576, 98), (16384, 100), (8192, 99), (4096, 112)] = kinds.getD (m / 4096 % 16) 0 := by
  simp only [pickT, hit0]
  have h : m / 4096 % 16 < 16 := Nat.mod_lt _ (by decide)
  generalize m / 4096 % 16 = k at h ⊢
  revert k
  decide +kernel
theorem pick1 (j m b c k : Nat) (hj : (j == 0) = false) (hb : b = 2 ^ k) : pickT j m [(b, c)] = if m / b % 2 = 1 then c else 45 := by
  simp only [pickT, hit1 j m b k hj hb, hj, bifIf]
  rfl
theorem pick3 (j m a b c x y : Nat) (hj : (j == 0) = false) (h1 : hitT j m a = decide (x = 1 ∧ y = 1)) (h2 : hitT j m b = decide (y = 1)) (h3 : hitT j m c = decide (x = 1)) (hx : x < 2) (hy : y < 2) (p q r : Nat) :
    pickT j m [(a, p), (b, q), (c, r)] = [45, r, q, p].getD (x + 2 * y) 0 := by
  simp only [pickT, h1, h2, h3, hj]
  have hxc : x = 0 ∨ x = 1 := by (first | lia | omega)
  have hyc : y = 0 ∨ y = 1 := by (first | lia | omega)
  rcases hxc with rfl | rfl <;> rcases hyc with rfl | rfl <;> rfl
theorem blk (m a c : Nat) : (3 < m % (a * (8 * c)) / a % 8) = (m / (a * 4) % 2 = 1) ∧ m % (a * (8 * c)) / a % 8 / 2 % 2 = m / (a * 2) % 2 ∧ m % (a * (8 * c)) / a % 8 % 2 = m / a % 2 := by
  rw [md, ← Nat.div_div_eq_div_mul, ← Nat.div_div_eq_div_mul]
  exact ⟨gt3 _, md _ 2 2 2, Nat.mod_mul_right_mod _ 2 4⟩
theorem picks_eq (m : Nat) : picks m 0 tabs = rowN (m / 4096 % 16) (m % 4096) := by
  have e : picks m 0 tabs = [pickT 0 m [(40960, 108), (49152, 115), (32768, 45), (24576, 98), (16384, 100), (8192, 99), (4096, 112)], pickT 1 m [(256, 114)], pickT 2 m [(128, 119)], pickT 3 m [(2112, 115), (2048, 83), (64, 120)], pickT 4 m [(32, 114)], pickT 5 m [(16, 119)], pickT 6 m [(1032, 115), (1024, 83), (8, 120)], pickT 7 m [(4, 114)], pickT 8 m [(2, 119)], pickT 9 m [(513, 116), (512, 84), (1, 120)]] := rfl
  rw [e, pick0, pick1 1 m 256 114 8 rfl rfl, pick1 2 m 128 119 7 rfl rfl, pick1 4 m 32 114 5 rfl rfl, pick1 5 m 16 119 4 rfl rfl, pick1 7 m 4 114 2 rfl rfl, pick1 8 m 2 119 1 rfl rfl,
    pick3 3 m 2112 2048 64 (m / 64 % 2) (m / 2048 % 2) rfl (hitA 3 m rfl) (hit1 3 m 2048 11 rfl rfl) (hit1 3 m 64 6 rfl rfl) (Nat.mod_lt _ (by decide)) (Nat.mod_lt _ (by decide)),
    pick3 6 m 1032 1024 8 (m / 8 % 2) (m / 1024 % 2) rfl (hitB 6 m rfl) (hit1 6 m 1024 10 rfl rfl) (hit1 6 m 8 3 rfl rfl) (Nat.mod_lt _ (by decide)) (Nat.mod_lt _ (by decide)),
    pick3 9 m 513 512 1 (m % 2) (m / 512 % 2) rfl (hitC 9 m rfl) (hit1 9 m 512 9 rfl rfl) (by rw [hit1 9 m 1 0 rfl rfl, Nat.div_one]) (Nat.mod_lt _ (by decide)) (Nat.mod_lt _ (by decide))]
  obtain ⟨a1, a2, a3⟩ := blk m 64 8
  obtain ⟨b1, b2, b3⟩ := blk m 8 64
  obtain ⟨c1, c2, c3⟩ := blk m 1 512
  have a4 : m % 4096 / 2048 % 2 = m / 2048 % 2 := md m 2048 2 1
  have b4 : m % 4096 / 1024 % 2 = m / 1024 % 2 := md m 1024 2 2
  have c4 : m % 4096 / 512 % 2 = m / 512 % 2 := md m 512 2 4
  simp only [Nat.reduceMul, Nat.div_one] at a1 a2 a3 b1 b2 b3 c1 c2 c3
  unfold rowN sgnD
  simp only [Nat.div_one, a1, a2, a3, a4, b1, b2, b3, b4, c1, c2, c3, c4]
  rfl
end
section
set_option tactic.hygienic false
/-- a body of three statements, the second a for over an enumerate -/
inductive BEn (T : Tab) (n : Nat) (sc : Scope) (ρ : List (Str × D)) (Q : D → Prop) : List Stmt → Prop
  | mk (st1 : Stmt) (y : Str) (py : Pos) (z : Str) (pz : Pos) (x1 : Nat) (pt : Pos) (pf : Pos) (arg : Expr) (pc : Pos) (b o : List Stmt) (pos : Pos) (st3 : Stmt) : globalKind sc (Str.ofString "enumerate") = true → okArg arg = true →
    (wpS T n sc st1 ⟨ρ, none, true⟩ (thenS (fun σ1 => wpE T n sc σ1.vars arg fun d => ∃ xs, d = .tuple xs ∧ forP (fun σ' => wpSs T n sc b σ') (fun σ' => wpSs T n sc o σ') (bindT sc (.Tuple [.Name y py, .Name z pz] x1 pt)) (enumD 0 xs) σ1
      (thenS (fun σ2 => wpSs T n sc [st3] σ2 fun fl _ => match fl with | .ret d => Q d | _ => False) fun _ _ => False)) fun _ _ => False)) →
    BEn T n sc ρ Q [st1, .For (.Tuple [.Name y py, .Name z pz] x1 pt) (.Call (.Name (Str.ofString "enumerate") pf) [arg] [] pc) b o pos, st3]
noncomputable def BodyEnum (T : Tab) (n : Nat) (sc : Scope) (body : List Stmt) (ρ : List (Str × D)) (Q : D → Prop) : Prop := BEn T n sc ρ Q body
theorem bindTupO {sc : Scope} {y z x : Str} {py pz pt : Pos} {k : Nat} {a b : D} {ρ : List (Str × D)} {xs : List D} {pl : Bool} (hs : (storable sc y && storable sc z && !(x == y) && !(x == z)) = true) :
    bindT sc (.Tuple [.Name y py, .Name z pz] k pt) (.tuple [a, b]) ⟨ρ, some (x, xs), pl⟩ = some ⟨setV z b (setV y a ρ), some (x, xs), pl⟩ := by
  simp only [Bool.and_eq_true, Bool.not_eq_true'] at hs
  obtain ⟨⟨⟨h1, h2⟩, h3⟩, h4⟩ := hs
  unfold bindT
  simp only [h1, h2, Bool.and_self, if_true]
  unfold Ab.set
  simp only [h3, h4, Bool.false_eq_true, if_false]
theorem glueN (cs : List Nat) : ∀ a : List Nat, (cs.map fun c => strOf [c]).foldl (fun acc p => acc ++ (Str.ofString "").cps ++ p.cps) a.toArray = (a ++ cs).toArray := by
  have e0 : (Str.ofString "").cps = #[] := by decide +kernel
  rw [e0]
  induction cs with
  | nil => intro a; simp
  | cons c r ih =>
    intro a
    rw [List.map_cons, List.foldl_cons]
    have e1 : a.toArray ++ #[] ++ (strOf [c]).cps = (a ++ [c]).toArray := by
      show a.toArray ++ #[] ++ [c].toArray = _
      simp
    rw [e1, ih, List.append_assoc]; rfl
theorem dJoin {perm : List Nat} {Q : D → Prop} (hl : perm.length ≤ 30) (h : Q (.str (strOf perm))) : methP (Str.ofString "join") (.str (Str.ofString "")) [.list (perm.map fun c => .str (strOf [c]))] Q := by
  have hs : strsOf? (perm.map fun c => D.str (strOf [c])) = some (perm.map fun c => strOf [c]) := by
    clear h hl
    induction perm with
    | nil => rfl
    | cons c r ih =>
      show (strsOf? (r.map fun c => D.str (strOf [c]))).map (fun xs => strOf [c] :: xs) = _
      rw [ih]; rfl
  refine mJoin hs ?_ ?_
  · unfold JoinOk
    rw [StrLaws.joinTotal]
    have e1 : ((perm.map fun c => strOf [c]).map (·.length)).sum ≤ (perm.map fun c => strOf [c]).length * 1 := StrLaws.sumLen_le _ fun y hy => by
      obtain ⟨c, _, rfl⟩ := List.mem_map.mp hy
      rw [strOf_len]; exact Nat.le_refl _
    have e2 : (Str.ofString "").length = 0 := by decide +kernel
    rw [e2]
    rw [List.length_map] at e1 ⊢
    unfold Builtin.Str.tooLong
    have e3 : sizeLine = 16777216 := by decide
    simp only [e3, Nat.mul_zero, Nat.add_zero, Bool.not_eq_true', decide_eq_false_iff_not]
    (first | lia | omega)
  · have e : Txt.join (Str.ofString "") (perm.map fun c => strOf [c]) = strOf perm := by
      show (⟨((perm.map fun c => strOf [c]).drop 1).foldl (fun acc p => acc ++ (Str.ofString "").cps ++ p.cps) ((perm.map fun c => strOf [c]).headD Str.empty).cps⟩ : Str) = ⟨perm.toArray⟩
      refine congrArg Str.mk ?_
      cases perm with
      | nil => rfl
      | cons c r => exact glueN r [c]
    rw [e]; exact h
noncomputable abbrev dC (c : Nat) : D := .str (strOf [c])
set_option maxHeartbeats 4000000 in
theorem b_filemode (T : Tab) (P : Params) (h1 : T.F (Str.ofString "S_IFMT") = some sIFMT) (h2 : T.C (Str.ofString "_filemode_table") = some (.tuple (tabs.map tabD))) : ∀ ds Q, sFilemode ds Q → ds.length = 1 ∧ BodyEnum T 20 (fdOf 68 P).scope (bodyOf 68 P) ([Str.ofString "mode"].zip ds) Q := by
  rintro ds Q ⟨m, rfl, h⟩
  rw [← picks_eq] at h
  refine ⟨rfl, ?_⟩
  dsimp only [List.zip, List.zipWith]
  conv => arg 3; whnf
  conv => arg 4; whnf
  refine BEn.mk _ _ _ _ _ _ _ _ _ _ _ _ _ _ (by walk_at "r") rfl ?_
  repeat walk_at "e"
  refine eGlob (by walk_at "r") (by walk_at "r") h2 ⟨_, rfl, ?_⟩
  have n1 : (Str.ofString "mode" == Str.ofString "index") = false := by kernel_rfl!
  have n2 : (Str.ofString "mode" == Str.ofString "table") = false := by kernel_rfl!
  have n3 : (Str.ofString "index" == Str.ofString "table") = false := by kernel_rfl!
  have n4 : (Str.ofString "mode" == Str.ofString "bit") = false := by kernel_rfl!
  have n5 : (Str.ofString "mode" == Str.ofString "char") = false := by kernel_rfl!
  have n6 : (Str.ofString "index" == Str.ofString "bit") = false := by kernel_rfl!
  have n7 : (Str.ofString "index" == Str.ofString "char") = false := by kernel_rfl!
  have n8 : (Str.ofString "bit" == Str.ofString "char") = false := by kernel_rfl!
  have p1 : (Str.ofString "mode" == Str.ofString "perm") = false := by kernel_rfl!
  have p2 : (Str.ofString "index" == Str.ofString "perm") = false := by kernel_rfl!
  have p3 : (Str.ofString "bit" == Str.ofString "perm") = false := by kernel_rfl!
  have p4 : (Str.ofString "char" == Str.ofString "perm") = false := by kernel_rfl!
  have q1 : D.str (Str.ofString "?") = dC 63 := by kernel_rfl!
  have q2 : D.str (Str.ofString "-") = dC 45 := by kernel_rfl!
  have hcj : ∀ j : Nat, (((j : Nat) : Int) == 0) = (j == 0) := fun j => by
    rw [Bool.eq_iff_iff, beq_iff_eq, beq_iff_eq]
    constructor <;> intro h <;> (first | lia | omega)
  refine forP_inv (fun items σ => ∃ (j : Nat) (rest : List (List (Nat × Nat))) (perm : List Nat) (ρ : List (Str × D)), items = enumD j (rest.map tabD) ∧ σ = ⟨ρ, some (Str.ofString "perm", perm.map dC), true⟩ ∧ ρ.lookup (Str.ofString "mode") = some (dN m) ∧ perm.length + rest.length ≤ 20 ∧ Q (.str (strOf (perm ++ picks m j rest)))) ?_ ?_ _ _ ⟨0, tabs, [], _, rfl, rfl, by walk_at "r", by decide, h⟩
  · rintro σ ⟨j, rest, perm, ρ, e, rfl, hm, hz, hq⟩
    cases rest with
    | cons _ _ => cases e
    | nil =>
      have hq : Q (.str (strOf perm)) := by
        have : perm ++ picks m j [] = perm := List.append_nil perm
        rw [this] at hq; exact hq
      have hz : perm.length ≤ 30 := by
        rw [List.length_nil] at hz; (first | lia | omega)
      repeat walk_at "e"
      refine ⟨rfl, ?_⟩
      repeat walk_at "e"
      refine dJoin hz ?_
      repeat walk_at "e"
      exact hq
  · rintro d r σ ⟨j, rest, perm, ρ, e, rfl, hm, hz, hq⟩
    cases rest with
    | nil => cases e
    | cons t rest =>
      cases e
      refine ⟨_, bindTupO (by walk_at "r"), fun K hK => ?_⟩
      have hm1 := look_ne (e := tabD t) n2 (look_ne (e := .int (j : Int)) n1 hm)
      have hi1 := look_ne (e := tabD t) n3 (look_eq (x := Str.ofString "index") (e := .int (j : Int)) (ρ := ρ))
      have ht1 : (setV (Str.ofString "table") (tabD t) (setV (Str.ofString "index") (.int (j : Int)) ρ)).lookup (Str.ofString "table") = some (tabD t) := look_eq
      generalize setV (Str.ofString "table") (tabD t) (setV (Str.ofString "index") (.int (j : Int)) ρ) = ρ1 at hm1 hi1 ht1 ⊢
      clear hm h
      repeat walk_at "e"
      refine eName ht1 ?_
      refine itIs rfl ?_
      clear ht1 ρ
      have cj := hcj j
      have hfin : ∀ (c : Nat) (ρ2 : List (Str × D)), c = pickT j m t → ρ2.lookup (Str.ofString "mode") = some (dN m) → K ⟨ρ2, some (Str.ofString "perm", (perm ++ [c]).map dC), true⟩ := fun c ρ2 hc hm2 => hK _ ⟨j + 1, rest, perm ++ [c], ρ2, rfl, rfl, hm2, by rw [List.length_append, List.length_singleton]; rw [List.length_cons] at hz; (first | lia | omega), by
        rw [List.append_assoc]
        rw [hc]
        exact hq⟩
      clear hK hq
      have hsz : (perm.map dC).length < sizeLine := by
        rw [List.length_map]
        rw [List.length_cons] at hz
        exact Nat.lt_of_lt_of_le (by (first | lia | omega) : perm.length < 30) (by decide)
      refine forP_inv (fun items σ => ∃ (es : List (Nat × Nat)) (ρ : List (Str × D)), items = es.map entryD ∧ σ = ⟨ρ, some (Str.ofString "perm", perm.map dC), true⟩ ∧ ρ.lookup (Str.ofString "mode") = some (dN m) ∧ ρ.lookup (Str.ofString "index") = some (.int (j : Int)) ∧ pickT j m es = pickT j m t) ?_ ?_ _ _ ⟨t, ρ1, rfl, rfl, hm1, hi1, rfl⟩
      · rintro σ ⟨es, ρ, e, rfl, hm, hi, hp⟩
        cases es with
        | cons _ _ => cases e
        | nil =>
          repeat walk_at "e"
          refine eName (look_ne p2 hi) ?_
          repeat walk_at "e"
          rw [cj]
          cases hj : (j == 0) with
          | true =>
            repeat walk_at "e"
            refine sApp (by walk_at "r") hsz ?_
            repeat walk_at "e"
            rw [q1]
            have := hfin 63 ρ (by rw [← hp]; unfold pickT; rw [hj]; rfl) hm
            rw [List.map_append] at this
            exact this
          | false =>
            repeat walk_at "e"
            refine sApp (by walk_at "r") hsz ?_
            repeat walk_at "e"
            rw [q2]
            have := hfin 45 ρ (by rw [← hp]; unfold pickT; rw [hj]; rfl) hm
            rw [List.map_append] at this
            exact this
      · rintro d r σ ⟨es, ρ, e, rfl, hm, hi, hp⟩
        cases es with
        | nil => cases e
        | cons en es =>
          cases e
          obtain ⟨b, c⟩ := en
          refine ⟨_, bindTupO (by walk_at "r"), fun K2 hK2 => ?_⟩
          have hm2 := look_ne (e := .str (strOf [c])) n5 (look_ne (e := .int (b : Int)) n4 hm)
          have hi2 := look_ne (e := .str (strOf [c])) n7 (look_ne (e := .int (b : Int)) n6 hi)
          have hb2 := look_ne (e := .str (strOf [c])) n8 (look_eq (x := Str.ofString "bit") (e := .int (b : Int)) (ρ := ρ))
          have hc2 : (setV (Str.ofString "char") (.str (strOf [c])) (setV (Str.ofString "bit") (.int (b : Int)) ρ)).lookup (Str.ofString "char") = some (dC c) := look_eq
          generalize setV (Str.ofString "char") (.str (strOf [c])) (setV (Str.ofString "bit") (.int (b : Int)) ρ) = ρ2 at hm2 hi2 hb2 hc2 ⊢
          repeat walk_at "e"
          refine eName (look_ne p2 hi2) ?_
          repeat walk_at "e"
          rw [cj]
          have hpick : pickT j m ((b, c) :: es) = bif hitT j m b then c else pickT j m es := rfl
          rw [hpick] at hp
          unfold hitT at hp
          cases hj : (j == 0) with
          | true =>
            rw [hj] at hp
            repeat walk_at "e"
            refine eName (look_ne p1 hm2) ?_
            repeat walk_at "e"
            refine ⟨_, rfl, ?_⟩
            refine eName (look_ne p3 hb2) ?_
            repeat walk_at "e"
            refine condB (fun hc => ?_) fun hc => ?_
            · rw [hc] at hp
              repeat walk_at "e"
              refine sApp (by walk_at "r") hsz ?_
              refine eName (look_ne p4 hc2) ?_
              repeat walk_at "e"
              have := hfin c ρ2 hp.symm.symm hm2
              rw [List.map_append] at this
              exact this
            · rw [hc] at hp
              repeat walk_at "e"
              exact hK2 _ ⟨es, ρ2, rfl, rfl, hm2, hi2, hp⟩
          | false =>
            rw [hj] at hp
            repeat walk_at "e"
            refine eName (look_ne p1 hm2) ?_
            refine eName (look_ne p3 hb2) ?_
            repeat walk_at "e"
            refine eName (look_ne p3 hb2) ?_
            repeat walk_at "e"
            refine condB (fun hc => ?_) fun hc => ?_
            · rw [hc] at hp
              repeat walk_at "e"
              refine sApp (by walk_at "r") hsz ?_
              refine eName (look_ne p4 hc2) ?_
              repeat walk_at "e"
              have := hfin c ρ2 hp hm2
              rw [List.map_append] at this
              exact this
            · rw [hc] at hp
              repeat walk_at "e"
              exact hK2 _ ⟨es, ρ2, rfl, rfl, hm2, hi2, hp⟩
end
section
set_option tactic.hygienic false
/-- one statement more ahead -/
theorem execs_more {Y : Sys} {A : Around} {E : Value → Shared → Prop} {s : Shared} {hid : Addr → Bool} {env : Env} {sc : Scope} {O : Option Addr} {st : Stmt} {r : List Stmt} {K : Ab → Prop} {Q Q' : Fl → Ab → Prop}
    (h1 : wpAny (model Y.prog Y.w) A (exec st env) (PostS Y sc env hid O s (thenS K Q')) E s) (hQ : ∀ f σ, Q' f σ → Q f σ)
    (h2 : ∀ (s' : Shared) (O' : Option Addr) (σ' : Ab), K σ' → SSt Y sc env hid s'.heap σ' O' → wpAny (model Y.prog Y.w) A (execs r env) (PostS Y sc env hid O' s' Q) E s') :
    wpAny (model Y.prog Y.w) A (execs (st :: r) env) (PostS Y sc env hid O s Q) E s := by
  refine wpAny_execs_cons (wpAny_mono h1 (fun fl s1 q => ?_) fun _ _ x => x)
  refine PostS.elim q (fun h' tk σ' O' kx lv S' c q => ?_) (fun h' tk σ' O' kx lv S' c q => .brk kx lv S' c (hQ _ _ q)) (fun h' tk σ' O' kx lv S' c q => .cont kx lv S' c (hQ _ _ q)) fun h' tk σ' O' v d kx lv S' c fr q => .ret kx lv S' c fr (hQ _ _ q)
  exact wpAny_mono (h2 { s with heap := h', toks := tk } O' σ' q S') (fun _ _ z => z.after rfl kx lv c) fun _ _ x => x

theorem fn_ok_enum {Y : Sys} {T : Tab} {k n : Nat} (Ok : SysOk Y) (TO : TabOk Y k T) {a : Addr} {fd : FuncData} {body : List Stmt} {names : List Str} (N : FnAt Y a fd body names) {S : Spec}
    (hS : ∀ ds Q, S ds Q → ds.length = names.length ∧ BodyEnum T n fd.scope body (names.zip ds) Q) : FnOk Y (k + 1) a S := by
  intro A s hid args ds Q E R g H r p
  obtain ⟨hl, p⟩ := hS ds Q p
  refine fn_frame Ok N R g H r hl fun env s₁ sm kp fL fC Fr S E' => ?_
  obtain ⟨h1, tk1, rfl⟩ := sm
  have snd := wpS_sound Ok TO n
  have hb := snd.2 n (Nat.le_refl _)
  have main : wpAny (model Y.prog Y.w) (A.deeper env) (execs body env) (PostS Y fd.scope env hid none { s with heap := h1, toks := tk1 } fun fl _ => match fl with | .ret d => Q d | _ => False) E' { s with heap := h1, toks := tk1 } := by
    cases p with
    | mk st1 y py z pz x1 pt pf arg pc b o pos st3 hg ha p =>
      refine execs_more (snd.1 n (Nat.le_refl _) _ _ _ _ (A.deeper env) _ env hid none E' p Fr S (R.deeper env)) (fun f σ h => h.elim) fun s2 O2 σ2 p2 S2 => ?_
      refine execs_more (c_forEnum Ok TO hb hb hg ha p2 Fr S2 (R.deeper env)) (fun f σ h => h.elim) fun s3 O3 σ3 p3 S3 => ?_
      exact hb _ _ _ _ (A.deeper env) _ env hid O3 E' p3 Fr S3 (R.deeper env)
  refine wpAny_mono main (fun fl s' q => ?_) fun _ _ x => x
  refine PostS.elim q (fun h' tk σ' O' kx lv S' c q => q.elim) (fun h' tk σ' O' kx lv S' c q => q.elim) (fun h' tk σ' O' kx lv S' c q => q.elim) fun h' tk σ' O' v d kx lv S' c fr q => ?_
  refine ⟨⟨h', tk, rfl, fun b o hP e => kx b o hP ⟨?_, fun z hz => ?_, by simp⟩ (kp b o e), S'.g⟩, _, fr, q⟩
  · rintro rfl; rw [fL] at e; cases e
  · rw [fC z b hz] at e; cases e
end
section
set_option tactic.hygienic false
/-- the namespaces of the frames of a stack -/
noncomputable def frs (l : List Env) : List Addr := l.filterMap (·.frame)
noncomputable def FrOk (Y : Sys) (h : Heap) (l : List Env) : Prop := ∀ env ∈ l, env.scope.kind ≠ .module ∧ ∃ L m, env.frame = some L ∧ h.Ns L m ∧ Y.base.get? L = none
/-- all is kept but the frames' slots -/
noncomputable def KpS (Y : Sys) (l : List Env) (h h' : Heap) : Prop := ∀ b o, b ≠ Y.P → h.get? b = some o → (b ∉ frs l → h'.get? b = some o) ∧ ∃ sl, h'.get? b = some { o with slots := sl }

section
variable {Y : Sys} {l : List Env} {h h' h'' : Heap}
theorem KpS.of (k : Kp Y.P h h') : KpS Y l h h' := fun b o n e => ⟨fun _ => k b o n e, o.slots, k b o n e⟩
theorem KpS.refl : KpS Y l h h := KpS.of Kp.refl
theorem KpS.trans (a : KpS Y l h h') (b : KpS Y l h' h'') : KpS Y l h h'' := fun x o n e => by
  obtain ⟨a1, sl, a2⟩ := a x o n e
  obtain ⟨b1, sl2, b2⟩ := b x _ n a2
  refine ⟨fun hx => ?_, sl2, b2⟩
  have e1 := a1 hx
  have := (b x o n e1).1 hx
  exact this
theorem KpS.more {l' : List Env} (hl : ∀ b ∈ frs l, b ∈ frs l') (a : KpS Y l h h') : KpS Y l' h h' := fun x o n e => by
  obtain ⟨a1, a2⟩ := a x o n e
  exact ⟨fun hx => a1 fun q => hx (hl x q), a2⟩
theorem frs_cons {env : Env} {L : Addr} (hf : env.frame = some L) : frs (env :: l) = L :: frs l := by
  unfold frs
  rw [List.filterMap_cons, hf]
theorem FrOk.isDat (F : FrOk Y h l) {b : Addr} (hb : b ∈ frs l) : ∀ o, h.get? b = some o → Mine.isDat o = false := by
  obtain ⟨env, he, hf⟩ := List.mem_filterMap.mp hb
  obtain ⟨_, L, m, e, n, _⟩ := F env he
  rw [hf] at e; cases e
  exact ns_isDat n
theorem FrOk.kps (Ok : SysOk Y) (g : Y.G h) (F : FrOk Y h l) {l' : List Env} (a : KpS Y l' h h') : FrOk Y h' l := fun env he => by
  obtain ⟨k1, L, m, e, n, b⟩ := F env he
  refine ⟨k1, L, m, e, ?_, b⟩
  have hP := ns_notP Ok g n
  obtain ⟨o, es, ep, ho, hd, r⟩ := n
  obtain ⟨_, sl, hs⟩ := a L o hP ho
  exact ⟨_, es, ep, hs, hd, r⟩
theorem FrOk.keeps (F : FrOk Y h l) (k : ∀ b o, b ∈ frs l → h.get? b = some o → h'.get? b = some o) : FrOk Y h' l := fun env he => by
  obtain ⟨k1, L, m, e, n, b⟩ := F env he
  exact ⟨k1, L, m, e, n.at' fun o eo => k L o (List.mem_filterMap.mpr ⟨env, he, e⟩) eo, b⟩
theorem FrOk.fun (Ok : SysOk Y) (F : FrOk Y h l) {B : Heap} (hB : ∀ b ∈ frs l, B.get? b = none) : h.FunFrames B l := by
  induction l with
  | nil => trivial
  | cons env r ih =>
    obtain ⟨k1, L, m, e, n, b⟩ := F env (.head _)
    obtain ⟨o, es, ep, ho, hd, _⟩ := n
    refine ⟨k1, ⟨L, o, e, hB L (List.mem_filterMap.mpr ⟨env, .head _, e⟩), ho, fun vs q => by rw [hd] at q; cases q⟩, ?_⟩
    exact ih (fun x hx => F x (.tail _ hx)) fun b hb => hB b (by
      obtain ⟨x, hx, q⟩ := List.mem_filterMap.mp hb
      exact List.mem_filterMap.mpr ⟨x, .tail _ hx, q⟩)

/-- data are kept -/
theorem KpS.dat (F : FrOk Y h l) (a : KpS Y l h h') {b : Addr} {o : Obj} (hd : Mine.isDat o = true) (hP : b ≠ Y.P) (e : h.get? b = some o) : h'.get? b = some o :=
  (a b o hP e).1 fun hb => by
    have := F.isDat hb o e
    rw [hd] at this; cases this
theorem KpS.rep (F : FrOk Y h l) (a : KpS Y l h h') {hid : Addr → Bool} (hp : hid Y.P = true) {v : Value} {d : D} (r : Rep (vis h hid) v d) : Rep (vis h' hid) v d :=
  r.mono fun b o hd e => by
    obtain ⟨e1, e2⟩ := vis_get e
    exact vis_of (a.dat F hd (by rintro rfl; rw [hp] at e2; cases e2) e1) e2
theorem KpS.repL (F : FrOk Y h l) (a : KpS Y l h h') {hid : Addr → Bool} (hp : hid Y.P = true) {v : List Value} {d : List D} (r : RepL (vis h hid) v d) : RepL (vis h' hid) v d :=
  r.mono fun b o hd e => by
    obtain ⟨e1, e2⟩ := vis_get e
    exact vis_of (a.dat F hd (by rintro rfl; rw [hp] at e2; cases e2) e1) e2
theorem KpS.live (a : KpS Y l h h') (hp : ∃ o, h'.get? Y.P = some o) {b : Addr} {o : Obj} (e : h.get? b = some o) : ∃ o', h'.get? b = some o' := by
  by_cases q : b = Y.P
  · subst q; exact hp
  · obtain ⟨_, sl, hs⟩ := a b o q e; exact ⟨_, hs⟩
theorem HidOk.kps (Ok : SysOk Y) {hid : Addr → Bool} (H : HidOk Y hid h) (a : KpS Y l h h') (g' : Y.G h') : HidOk Y hid h' :=
  ⟨H.p, fun b hb => by obtain ⟨o, e⟩ := H.live b hb; exact a.live (let ⟨_, e⟩ := Ok.tab _ g'; ⟨_, e⟩) e, H.cst⟩
theorem KpS.var (Ok : SysOk Y) (g : Y.G h) (F : FrOk Y h l) (a : KpS Y l h h') {env : Env} {x : Str} {v : Value} (hv : VarAt env h x v) : VarAt env h' x v := by
  rcases hv with ⟨q, m, n, hm⟩ | ⟨q, hc, c, e, n⟩
  · refine .inl ⟨q, m, ?_, hm⟩
    have hP := ns_notP Ok g n
    obtain ⟨o, es, ep, ho, hd, r⟩ := n
    obtain ⟨_, sl, hs⟩ := a _ o hP ho
    exact ⟨_, es, ep, hs, hd, r⟩
  · refine .inr ⟨q, hc, c, e, ?_⟩
    have hP := cell_notP Ok g n
    obtain ⟨o, ho, hd⟩ := n
    obtain ⟨_, sl, hs⟩ := a _ o hP ho
    exact ⟨_, hs, hd⟩
end
section
variable {Y : Sys} {T : Tab} {k : Nat} {A : Around} {E : Value → Shared → Prop} {s : Shared} {hid : Addr → Bool} {env : Env} {sc : Scope} {ρ : List (Str × D)}
theorem EnvOk.kps (Ok : SysOk Y) {l : List Env} {h h' : Heap} (V : EnvOk Y sc env h hid ρ) (g : Y.G h) (F : FrOk Y h l) (hp : hid Y.P = true) (a : KpS Y l h h') : EnvOk Y sc env h' hid ρ := by
  refine ⟨V.kind, V.sce, V.glob, V.bui, V.baseL, V.cells, fun z c e => ?_, fun x d e => ?_⟩
  · obtain ⟨v, n⟩ := V.cellAt z c e
    have hP := cell_notP Ok g n
    obtain ⟨o, ho, hd⟩ := n
    obtain ⟨_, sl, hs⟩ := a _ o hP ho
    exact ⟨v, _, hs, hd⟩
  · obtain ⟨q, v, hv, r⟩ := V.vars x d e
    exact ⟨q, v, a.var Ok g F hv, a.rep F hp r⟩
theorem SSt.kps (Ok : SysOk Y) {l : List Env} {h h' : Heap} {σ : Ab} {O : Option Addr} (S : SSt Y sc env hid h σ O) (F : FrOk Y h l) (a : KpS Y l h h') (g' : Y.G h') : SSt Y sc env hid h' σ O := by
  refine ⟨S.V.kps Ok S.g F (hidO_p S.H.p) a, g', S.H.kps Ok a g', ?_, ?_⟩
  · obtain ⟨m, n⟩ := S.ns
    have hP := ns_notP Ok S.g n
    obtain ⟨o, es, ep, ho, hd, r⟩ := n
    obtain ⟨_, sl, hs⟩ := a _ o hP ho
    exact ⟨m, _, es, ep, hs, hd, r⟩
  · have ho := S.own
    cases O with
    | none => rw [ho.nil]; trivial
    | some b =>
      obtain ⟨x, xs, e⟩ := ho.addr
      rw [e] at ho ⊢
      obtain ⟨h1, h2, h3, h4, h5, h6, vs, il, pl, rl⟩ := ho
      have hP := list_notP Ok S.g il
      obtain ⟨o, e1, e2, n, e3⟩ := id il
      have hk : ∀ o, h.get? b = some o → h'.get? b = some o := fun o' e' => by
        rw [e1] at e'; cases e'
        exact a.dat F (by simp [isDat, e3]) hP e1
      exact ⟨h1, a.var Ok S.g F h2, h3, h4, h5, h6, vs, il.at hk, fun hp => (pl hp).at hk, rl.imm h6⟩

/-- a contract of a def that may catch what is raised -/
noncomputable def PostF (Y : Sys) (hid : Addr → Bool) (l : List Env) (s : Shared) (Q : D → Prop) (v : Value) (s' : Shared) : Prop :=
  ∃ h' tk, s' = { s with heap := h', toks := tk } ∧ KpS Y l s.heap h' ∧ Y.G h' ∧ ∃ d, Rep (vis h' hid) v d ∧ Q d
noncomputable def FnX (Y : Sys) (n : Nat) (a : Addr) (S : Spec) : Prop :=
  ∀ (A : Around) (s : Shared) (hid : Addr → Bool) (l : List Env) (args : List Value) (ds : List D) (Q : D → Prop) (E : Value → Shared → Prop),
    Room n A → A.frames = some l → FrOk Y s.heap l → Y.G s.heap → HidOk Y hid s.heap → RepL (vis s.heap hid) args ds → S ds Q → wpAny (model Y.prog Y.w) A (call (.ref a) args) (PostF Y hid l s Q) E s
end
end
section
set_option tactic.hygienic false
/-- a body whose statements may call defs that catch -/
inductive StB (T : Tab) (X : Str → Option Spec) (n : Nat) (sc : Scope) (k : Ab → Prop) (Q : Fl → Ab → Prop) (σ : Ab) : Stmt → Prop
  | plain (st : Stmt) : wpS T n sc st σ (thenS k Q) → StB T X n sc k Q σ st
  | asg (y : Str) (py : Pos) (f : Str) (pf : Pos) (args : List Expr) (pc pos : Pos) (S : Spec) : X f = some S → storable sc y = true → globalKind sc f = true → (f == ("__debug__" : Str)) = false → args.all okArg = true → args ≠ [] → σ.own = none → (wpEs (wpE T n sc σ.vars) args fun ds => S ds fun d => k (σ.set y d)) → StB T X n sc k Q σ (.Assign [.Name y py] (.Call (.Name f pf) args [] pc) pos)
  | ret1 (f : Str) (pf : Pos) (args : List Expr) (pc pos : Pos) (S : Spec) : X f = some S → globalKind sc f = true → (f == ("__debug__" : Str)) = false → args.all okArg = true → args ≠ [] → σ.own = none → (wpEs (wpE T n sc σ.vars) args fun ds => S ds fun d => Q (.ret d) σ) → StB T X n sc k Q σ (.Return (some (.Call (.Name f pf) args [] pc)) pos)
  | ret2 (f : Str) (pf : Pos) (args : List Expr) (pc pg : Pos) (args' : List Expr) (pc' pl pos : Pos) (S : Spec) : X f = some S → globalKind sc f = true → (f == ("__debug__" : Str)) = false → args.all okArg = true → args ≠ [] → args'.all okArg = true → args' ≠ [] → σ.own = none →
      (wpEs (wpE T n sc σ.vars) args fun ds => S ds fun d => wpEs (wpE T n sc σ.vars) args' fun ds' => S ds' fun d' => Q (.ret (.list [d, d'])) σ) → StB T X n sc k Q σ (.Return (some (.List [.Call (.Name f pf) args [] pc, .Call (.Name f pg) args' [] pc'] pl)) pos)
noncomputable def wpB (T : Tab) (X : Str → Option Spec) (n : Nat) (sc : Scope) : List Stmt → Ab → (Fl → Ab → Prop) → Prop
  | [], σ, Q => Q .next σ
  | st :: r, σ, Q => StB T X n sc (fun σ' => wpB T X n sc r σ' Q) Q σ st

structure XTab (Y : Sys) (k : Nat) (X : Str → Option Spec) : Prop where
  fn : ∀ f S, X f = some S → ∃ a, Y.mg f = some (.ref a) ∧ FnX Y k a S ∧ ∀ h, Y.G h → ∃ o fd, h.get? a = some o ∧ o.data = .func fd

section
variable {Y : Sys} {T : Tab} {X : Str → Option Spec} {k : Nat} {A : Around} {E : Value → Shared → Prop} {s : Shared} {hid : Addr → Bool} {env : Env} {sc : Scope} {ρ : List (Str × D)} {l : List Env}

theorem call_X (Ok : SysOk Y) (TO : TabOk Y k T) (XO : XTab Y k X) {n : Nat} {f : Str} {pf pc : Pos} {args : List Expr} {S : Spec} (hX : X f = some S) (hg : globalKind sc f = true) (hd : (f == ("__debug__" : Str)) = false) (ha : args.all okArg = true) (hne : args ≠ []) {Q : D → Prop}
    (p : wpEs (wpE T n sc ρ) args fun ds => S ds Q) (V : EnvOk Y sc env s.heap hid ρ) (g : Y.G s.heap) (H : HidOk Y hid s.heap) (R : Room k A) (hf : A.frames = some l) (F : FrOk Y s.heap l) (hP : ∀ b ∈ frs l, b ≠ Y.P) :
    wpAny (model Y.prog Y.w) A (eval (.Call (.Name f pf) args [] pc) env) (PostF Y hid l s Q) E s := by
  obtain ⟨a, hm, fo, hfd⟩ := XO.fn f S hX
  refine wpAny_Call_NameR (load_glob Ok V g hg hd hm ?_)
  refine call_args Ok (wpE_sound Ok TO n sc ρ) (PH := Y.G) hne ha p V g H R (fun h gh => ?_) fun vs s1 ds u1 r1 q1 => ⟨u1.g, ?_⟩
  · obtain ⟨o, fd, e1, e2⟩ := hfd h gh
    refine ⟨.frame, .inl rfl, (Looks.ld (part := none) e1).andThen ?_⟩
    rw [e2]
    exact .now
  · have F1 : FrOk Y s1.heap l := F.keeps fun b o hb e => u1.kp b o (hP b hb) e
    refine wpAny_mono (fo A s1 hid l vs ds Q E R hf F1 u1.g (H.ups Ok u1) r1 q1) (fun v s' q => ?_) fun _ _ x => x
    obtain ⟨h', tk, rfl, kx, g', d, r, q⟩ := q
    obtain ⟨h1, tk1, rfl, kp1, _⟩ := id u1
    exact ⟨h', tk, rfl, (KpS.of kp1).trans kx, g', d, r, q⟩

/-- all is kept but the frame's own and the slots of the frames -/
noncomputable def KpFS (Y : Sys) (env : Env) (l : List Env) (O : Option Addr) (h h' : Heap) : Prop :=
  ∀ b o, b ≠ Y.P → (b ≠ env.locals ∧ (∀ z, env.cells.lookup z ≠ some b) ∧ O ≠ some b) → h.get? b = some o → (b ∉ frs l → h'.get? b = some o) ∧ ∃ sl, h'.get? b = some { o with slots := sl }
theorem KpFS.of {O : Option Addr} {h h' : Heap} (k : KpF Y env O h h') : KpFS Y env l O h h' := fun b o n m e => ⟨fun _ => k b o n m e, o.slots, k b o n m e⟩
theorem KpFS.ofX {O : Option Addr} {h h' : Heap} (hf : env.frame = some env.locals) (k : KpS Y (env :: l) h h') : KpFS Y env l O h h' := fun b o n m e => by
  obtain ⟨k1, k2⟩ := k b o n e
  refine ⟨fun hb => k1 fun q => ?_, k2⟩
  rw [frs_cons hf] at q
  rcases List.mem_cons.mp q with q | q
  · exact m.1 q
  · exact hb q
theorem KpFS.trans {O O1 : Option Addr} {h h1 h2 : Heap} (a : KpFS Y env l O h h1) (c : ∀ a, O1 = some a → O = some a ∨ h.get? a = none) (b : KpFS Y env l O1 h1 h2) : KpFS Y env l O h h2 := fun x o n m e => by
  obtain ⟨a1, sl, a2⟩ := a x o n m e
  have m1 : x ≠ env.locals ∧ (∀ z, env.cells.lookup z ≠ some x) ∧ O1 ≠ some x := ⟨m.1, m.2.1, fun hm => by
    rcases c x hm with e2 | e2
    · exact m.2.2 e2
    · rw [e2] at e; cases e⟩
  obtain ⟨b1, sl2, b2⟩ := b x _ n m1 a2
  refine ⟨fun hx => (b x o n m1 (a1 hx)).1 hx, sl2, b2⟩

/-- what a body's walk stands on -/
structure BFr (Y : Sys) (env : Env) (l : List Env) : Prop where
  F : SFr Y env
  frame : env.frame = some env.locals
  apart : ∀ b ∈ frs l, b ≠ env.locals ∧ (∀ z, env.cells.lookup z ≠ some b) ∧ b ≠ Y.P
theorem frok_kpf {O : Option Addr} {h h' : Heap} {σ : Ab} (B : BFr Y env l) (Fl : FrOk Y h l) (S : SSt Y sc env hid h σ O) (k : KpF Y env O h h') : FrOk Y h' l := Fl.keeps fun b o hb e => by
  obtain ⟨a1, a2, a3⟩ := B.apart b hb
  refine k b o a3 ⟨a1, a2, ?_⟩ e
  rintro rfl
  have hd := Fl.isDat hb o e
  obtain ⟨x, xs, e2⟩ := S.own.addr
  have ho := S.own
  rw [e2] at ho
  obtain ⟨_, _, _, _, _, _, vs, ⟨o', e', _, _, d'⟩, _⟩ := ho
  rw [e] at e'; cases e'
  simp [isDat, d'] at hd
theorem frok_me (B : BFr Y env l) {h : Heap} {σ : Ab} {O : Option Addr} (Fl : FrOk Y h l) (S : SSt Y sc env hid h σ O) : FrOk Y h (env :: l) := fun e he => by
  rcases List.mem_cons.mp he with rfl | he
  · obtain ⟨m, n⟩ := S.ns
    exact ⟨by rw [S.V.kind]; decide, _, m, B.frame, n, S.V.baseL⟩
  · exact Fl e he

noncomputable def PostW (Y : Sys) (sc : Scope) (env : Env) (l : List Env) (hid : Addr → Bool) (s : Shared) (Q : Fl → Ab → Prop) (fl : Flow) (s' : Shared) : Prop :=
  ∃ h' tk σ' O' f, s' = { s with heap := h', toks := tk } ∧ KpFS Y env l none s.heap h' ∧ SSt Y sc env hid h' σ' O' ∧ FlR h' hid fl f ∧ Q f σ'

theorem wpB_sound (Ok : SysOk Y) (TO : TabOk Y k T) (XO : XTab Y k X) {n : Nat} (B : BFr Y env l) (R : Room k A) (hfr : A.frames = some (env :: l)) {Q : Fl → Ab → Prop} {s₀ : Shared} : ∀ (sts : List Stmt) (σ : Ab) (O : Option Addr) (s : Shared),
    wpB T X n sc sts σ Q → SSt Y sc env hid s.heap σ O → FrOk Y s.heap l → (∃ h tk, s = { s₀ with heap := h, toks := tk }) → KpFS Y env l none s₀.heap s.heap → Lv s₀.heap s.heap → (∀ a, O = some a → none = some a ∨ s₀.heap.get? a = none) →
    wpAny (model Y.prog Y.w) A (execs sts env) (PostW Y sc env l hid s₀ Q) E s
  | [], σ, O, s, p, S, Fl, e0, k0, lv0, c0 => by
    obtain ⟨h0, tk0, rfl⟩ := e0
    exact wpAny_execs_nil ⟨h0, tk0, σ, O, .next, rfl, k0, S, trivial, p⟩
  | st :: r, σ, O, s, p, S, Fl, e0, k0, lv0, c0 => by
    have hP : ∀ b ∈ frs (env :: l), b ≠ Y.P := fun b hb => by
      rw [frs_cons B.frame] at hb
      rcases List.mem_cons.mp hb with rfl | hb
      · obtain ⟨m, n⟩ := S.ns; exact ns_notP Ok S.g n
      · exact (B.apart b hb).2.2
    have own0 : σ.own = none → O = none := fun ho => by
      cases O with
      | none => rfl
      | some a => obtain ⟨x, xs, e⟩ := S.own.addr; rw [ho] at e; cases e
    unfold wpB at p
    cases p with
    | plain _ p =>
      refine wpAny_execs_cons (wpAny_mono ((wpS_sound Ok TO n).1 n (Nat.le_refl _) sc st σ _ A s env hid O E p B.F S R) (fun fl s1 q => ?_) fun _ _ x => x)
      obtain ⟨h0, tk0, e0⟩ := e0
      subst e0
      refine PostS.elim q (fun h' tk σ' O' kx lv S' c q => ?_) (fun h' tk σ' O' kx lv S' c q => ?_) (fun h' tk σ' O' kx lv S' c q => ?_) fun h' tk σ' O' v d kx lv S' c fr q => ?_
      · exact wpB_sound (s₀ := s₀) Ok TO XO B R hfr r σ' O' _ q S' (frok_kpf B Fl S kx) ⟨h', tk, rfl⟩ (k0.trans c0 (KpFS.of (l := l) kx)) (lv0.trans lv) (own_trans lv0 c0 c)
      · exact ⟨h', tk, σ', O', .brk, rfl, k0.trans c0 (KpFS.of (l := l) kx), S', trivial, q⟩
      · exact ⟨h', tk, σ', O', .cont, rfl, k0.trans c0 (KpFS.of (l := l) kx), S', trivial, q⟩
      · exact ⟨h', tk, σ', O', .ret d, rfl, k0.trans c0 (KpFS.of (l := l) kx), S', fr, q⟩
    | asg y py f pf args pc pos Sp hX hs hg hd ha hne ho p =>
        have hO := own0 ho
        subst hO
        refine wpAny_execs_cons (wpAny_Assign_Name (wpAny_mono (call_X Ok TO XO hX hg hd ha hne p S.V S.g S.H R hfr (frok_me B Fl S) hP) (fun v s1 q => ?_) fun _ _ x => x) (by rw [swaps_eq S.V _ rfl]; rfl))
        obtain ⟨h1, tk1, rfl, kx1, g1, d, rd, q⟩ := q
        have S1 := S.kps Ok (frok_me B Fl S) kx1 g1
        have Fl1 : FrOk Y h1 l := Fl.kps Ok S.g kx1
        refine st_store (s := { s with heap := h1, toks := tk1 }) Ok B.F S1 hs rd fun h2 tk2 O2 kx2 lv2 S2 c2 => ?_
        have hO2 : O2 = none := by rcases c2 with c2 | c2 <;> exact c2
        subst hO2
        obtain ⟨h0, tk0, rfl⟩ := e0
        have lv1 : Lv h0 h1 := fun b o e => kx1.live (let ⟨_, e⟩ := Ok.tab _ g1; ⟨_, e⟩) e
        exact wpB_sound (s₀ := s₀) Ok TO XO B R hfr r (σ.set y d) none _ q S2 (frok_kpf B Fl1 S1 kx2) ⟨h2, tk2, rfl⟩ ((k0.trans c0 (KpFS.ofX B.frame kx1)).trans (fun a e => by cases e) (KpFS.of kx2)) ((lv0.trans lv1).trans lv2) (fun a e => by cases e)
    | ret1 f pf args pc pos Sp hX hg hd ha hne ho p =>
        have hO := own0 ho
        subst hO
        refine wpAny_execs_cons (wpAny_Return_some (wpAny_mono (call_X Ok TO XO hX hg hd ha hne p S.V S.g S.H R hfr (frok_me B Fl S) hP) (fun v s1 q => ?_) fun _ _ x => x))
        obtain ⟨h1, tk1, rfl, kx1, g1, d, rd, q⟩ := q
        obtain ⟨h0, tk0, rfl⟩ := e0
        exact ⟨h1, tk1, σ, none, .ret d, rfl, k0.trans c0 (KpFS.ofX B.frame kx1), S.kps Ok (frok_me B Fl S) kx1 g1, rd, q⟩
    | ret2 f pf args pc pg args' pc' pl pos Sp hX hg hd ha hne ha' hne' ho p =>
        have hO := own0 ho
        subst hO
        have Fm := frok_me B Fl S
        refine wpAny_execs_cons (wpAny_Return_some (List_ (spliced_more (wpAny_mono (call_X Ok TO XO hX hg hd ha hne p S.V S.g S.H R hfr Fm hP) (fun v s1 q => ?_) fun _ _ x => x) rfl)))
        obtain ⟨h1, tk1, rfl, kx1, g1, d, rd, q⟩ := q
        have S1 := S.kps Ok Fm kx1 g1
        have Fl1 : FrOk Y h1 l := Fl.kps Ok S.g kx1
        have Fm1 : FrOk Y h1 (env :: l) := frok_me B Fl1 S1
        refine spliced_more (wpAny_mono (call_X (s := { s with heap := h1, toks := tk1 }) Ok TO XO hX hg hd ha' hne' q S1.V g1 S1.H R hfr Fm1 hP) (fun v2 s2 q2 => ?_) fun _ _ x => x) rfl
        obtain ⟨h2, tk2, rfl, kx2, g2, d2, rd2, q2⟩ := q2
        have S2 := S1.kps Ok Fm1 kx2 g2
        refine spliced_none ?_
        have Fl2 : FrOk Y h2 l := Fl1.kps Ok g1 kx2
        have rd' := kx2.rep Fm1 S.H.p rd
        refine wpAny_newList ?_ (show 2 ≤ sizeLine from by decide)
        obtain ⟨h0, tk0, rfl⟩ := e0
        have kk : ∀ b o, h2.get? b = some o → (h2.push { cls := .type "list", data := .seq #[v, v2] }).get? b = some o := fun b o e => Heap.get?_push_of_some _ e
        have g3 := Ok.mono _ _ g2 kk
        have S3 := S2.up Ok (Kp.of kk) g3
        refine ⟨_, tk2, σ, none, .ret (.list [d, d2]), rfl, ((k0.trans c0 (KpFS.ofX B.frame kx1)).trans (O1 := none) (fun a e => by cases e) (KpFS.ofX B.frame kx2)).trans (O1 := none) (fun a e => by cases e) (KpFS.of (KpF.of (Kp.of kk))), S3, ?_, q2⟩
        exact .list (vis_of (Heap.get?_push_size _ rfl) (S2.H.fresh (get_size _))) rfl (by rfl) ((RepL.cons rd' (.cons rd2 .nil)).mono fun b o _ e => by obtain ⟨q1, q2⟩ := vis_get e; exact vis_of (kk b o q1) q2)
end
end
section
set_option tactic.hygienic false
theorem SSt.withVars {Y : Sys} {sc : Scope} {env : Env} {hid : Addr → Bool} {h : Heap} {ρ ρ' : List (Str × D)} (S : SSt Y sc env hid h ⟨ρ', none, true⟩ none) (hv : ∀ x d, ρ.lookup x = some d → (x == ("__debug__" : Str)) = false ∧ ∃ v, VarAt env h x v ∧ Rep (vis h hid) v d) :
    SSt Y sc env hid h ⟨ρ, none, true⟩ none :=
  ⟨⟨S.V.kind, S.V.sce, S.V.glob, S.V.bui, S.V.baseL, S.V.cells, S.V.cellAt, hv⟩, S.g, S.H, S.ns, trivial⟩

/-- what a def's frame begins with, its arguments told by their values -/
theorem fn_raw {Y : Sys} (Ok : SysOk Y) {a : Addr} {fd : FuncData} {body : List Stmt} {names : List Str} (N : FnAt Y a fd body names) {A : Around} {s : Shared} {hid : Addr → Bool} {args : List Value} {Q : Value → Shared → Prop} {E : Value → Shared → Prop}
    {k : Nat} (R : Room (k + 1) A) (g : Y.G s.heap) (H : HidOk Y hid s.heap) (hlen : args.length = names.length)
    (h : ∀ (env : Env) (s₁ : Shared), (∃ h tk, s₁ = { s with heap := h, toks := tk }) → (∀ b o, s.heap.get? b = some o → s₁.heap.get? b = some o) → s.heap.get? env.locals = none → (∀ z c, env.cells.lookup z = some c → s.heap.get? c = none) → SFr Y env → env.frame = some env.locals →
      SSt Y fd.scope env hid s₁.heap ⟨[], none, true⟩ none → (∀ x v, (x, v) ∈ names.zip args → (x == ("__debug__" : Str)) = false ∧ VarAt env s₁.heap x v) →
      wpAny (model Y.prog Y.w) (A.deeper env) (execs body env) (fun f s' => Q (match f with | .ret v => v | _ => .none) s') (fun e s' => wpAny (model Y.prog Y.w) (A.deeper env) (leaving env e) (fun _ s'' => E e s'') (fun e' s'' => E e' s'') s') s₁) :
    wpAny (model Y.prog Y.w) A (call (.ref a) args) Q E s := by
  obtain ⟨o, ho, hd, hc⟩ := N.at_ _ g
  have hzf := zip_fst (xs := names) (ys := args) hlen
  refine wpAny_call (codeAny_call_cells (by have := R.d; omega) ho hd (Ok.nolim _ g) hc N.hbody (N.hbind args hlen) N.hclo (fun x hx => ?_) (fun s₁ X => ?_) N.hco N.hgen N.hk)
  · have hm : x.1 ∈ names := (List.of_mem_zip hx).1
    have := List.all_eq_true.mp N.st _ hm
    unfold storable at this
    simp only [Bool.and_eq_true, Bool.or_eq_true, beq_iff_eq] at this
    rcases this.1 with q | q
    · exact .inl q
    · exact .inr ⟨q, cellsFrom_has _ _ _ _ q⟩
  · generalize he : callEnvC fd s.heap.objs.size a = env at X ⊢
    have eL : env.locals = s.heap.objs.size := by rw [← he]; rfl
    have eF : env.frame = some env.locals := by rw [← he]; rfl
    have eC : env.cells = cellsFrom (s.heap.objs.size + 1) fd.scope.names [] := by rw [← he]; rfl
    have eS : env.scope = fd.scope := by rw [← he]; rfl
    have ek : ∀ x, env.kindOf x = fd.scope.names.lookup x := fun x => by rw [← he]; rfl
    have fL : s.heap.get? env.locals = none := by rw [eL]; exact get_size _
    have fC : ∀ z c, env.cells.lookup z = some c → s.heap.get? c = none := fun z c e => by
      rw [eC] at e
      have hm := mem_of_lookup e
      rcases cellsFrom_mem _ _ _ _ _ hm with q | q
      · cases q
      · cases e2 : s.heap.get? c with
        | none => rfl
        | some o => exact absurd (Heap.lt_size e2) (Nat.not_lt.mpr (Nat.le_of_succ_le q))
    have kp := X.toInCall.keep
    have g1 := Ok.mono _ _ g kp
    have H1 : HidOk Y hid s₁.heap := H.up (.of kp) (let ⟨_, e⟩ := Ok.tab _ g1; ⟨_, e⟩)
    have Fr : SFr Y env := by
      refine ⟨fun x y c e1 e2 => ?_, fun x c e => Ok.fresh _ _ g (fC x c e)⟩
      have m1 := mem_of_lookup e1
      have m2 := mem_of_lookup e2
      have ap := X.apart
      by_cases hxy : x = y
      · exact hxy
      · exfalso
        have key : ∀ (cs : List (Str × Addr)), cs.Pairwise (fun x y => x.2 ≠ y.2) → (x, c) ∈ cs → (y, c) ∈ cs → False := by
          intro cs hp h1 h2
          induction cs with
          | nil => cases h1
          | cons q r ih =>
            cases hp with
            | cons hq hr =>
              rcases List.mem_cons.mp h1 with h1 | h1
              · rcases List.mem_cons.mp h2 with h2 | h2
                · exact hxy (congrArg Prod.fst (h1.trans h2.symm))
                · exact hq _ h2 (by rw [← h1])
              · rcases List.mem_cons.mp h2 with h2 | h2
                · exact hq _ h1 (by rw [← h2])
                · exact ih hr h1 h2
        exact key _ ap m1 m2
    have V : EnvOk Y fd.scope env s₁.heap hid [] := by
      refine ⟨by rw [eS]; exact N.hk, eS, by rw [← he]; exact N.hglob, by rw [← he]; exact N.hbui, Ok.fresh _ _ g fL, fun x hx => ⟨?_, ?_⟩, fun z c e => ⟨_, X.cell z c e⟩, fun x d hx => by cases hx⟩
      · have := List.all_eq_true.mp N.ncd _ (mem_of_lookup hx)
        simpa using this
      · rw [eC]; exact Option.isSome_iff_exists.mp (cellsFrom_has _ _ _ _ hx)
    refine wpAny_mono (h env s₁ X.toInCall.same kp fL fC Fr eF ⟨V, g1, H1, ⟨_, X.toInCall.ns⟩, trivial⟩ fun x v hv => ?_) (fun f s' q => q) fun e s' q => q
    have hm : x ∈ names := (List.of_mem_zip hv).1
    have hst := List.all_eq_true.mp N.st _ hm
    unfold storable at hst
    simp only [Bool.and_eq_true, Bool.or_eq_true, beq_iff_eq, Bool.not_eq_true'] at hst
    refine ⟨hst.2, ?_⟩
    rcases hst.1 with q | q
    · have kl : env.kindOf x = some .local := by rw [ek]; exact q
      exact .inl ⟨kl, _, X.toInCall.ns, bindL_in _ _ _ (by rw [hzf]; exact N.nd) hv kl⟩
    · have kc : env.kindOf x = some .cell := by rw [ek]; exact q
      obtain ⟨c, hc⟩ := Option.isSome_iff_exists.mp (cellsFrom_has fd.scope.names (s.heap.objs.size + 1) [] x q)
      rw [← eC] at hc
      refine .inr ⟨.inl kc, ?_, c, hc, ?_⟩
      · have := List.all_eq_true.mp N.ncd _ (mem_of_lookup q)
        simpa using this
      · have := X.cell x c hc
        rw [bindC_in _ _ _ (by rw [hzf]; exact N.nd) hv kc] at this
        exact this

theorem frs_live {Y : Sys} {h : Heap} {l : List Env} (F : FrOk Y h l) {b : Addr} (hb : b ∈ frs l) : ∃ m, h.Ns b m := by
  obtain ⟨env, he, hf⟩ := List.mem_filterMap.mp hb
  obtain ⟨_, L, m, e, n, _⟩ := F env he
  rw [hf] at e; cases e
  exact ⟨m, n⟩

/-- what a body's walk stands on, at its frame -/
theorem bfr_of {Y : Sys} (Ok : SysOk Y) {h : Heap} {l : List Env} {env : Env} (F : FrOk Y h l) (g : Y.G h) (Fr : SFr Y env) (eF : env.frame = some env.locals) (fL : h.get? env.locals = none) (fC : ∀ z c, env.cells.lookup z = some c → h.get? c = none) : BFr Y env l :=
  ⟨Fr, eF, fun b hb => by
    obtain ⟨m, n⟩ := frs_live F hb
    have hP := ns_notP Ok g n
    obtain ⟨o, _, _, e, _⟩ := n
    have h1 : b ≠ env.locals := by rintro rfl; rw [fL] at e; cases e
    have h2 : ∀ z, env.cells.lookup z ≠ some b := fun z hz => by rw [fC z b hz] at e; cases e
    exact ⟨h1, h2, hP⟩⟩

theorem fnx_ok {Y : Sys} {T : Tab} {X : Str → Option Spec} {k n : Nat} (Ok : SysOk Y) (TO : TabOk Y k T) (XO : XTab Y k X) {a : Addr} {fd : FuncData} {body : List Stmt} {names : List Str} (N : FnAt Y a fd body names) {S : Spec}
    (hS : ∀ ds Q, S ds Q → ds.length = names.length ∧ wpB T X n fd.scope body ⟨names.zip ds, none, true⟩ fun fl _ => match fl with | .ret d => Q d | _ => False) : FnX Y (k + 1) a S := by
  intro A s hid l args ds Q E R hfr Fl g H r p
  obtain ⟨hl, p⟩ := hS ds Q p
  refine fn_raw Ok N R g H (by rw [r.length, hl]) fun env s₁ sm kp fL fC Fr eF S0 hv => ?_
  have B := bfr_of Ok Fl g Fr eF fL fC
  have Fl1 : FrOk Y s₁.heap l := Fl.keeps fun b o _ e => kp b o e
  have S1 : SSt Y fd.scope env hid s₁.heap ⟨names.zip ds, none, true⟩ none := S0.withVars fun x d hx => by
    obtain ⟨v, hv', rv⟩ := zip_rep (names := names) r hx
    obtain ⟨q1, q2⟩ := hv x v hv'
    exact ⟨q1, v, q2, rv.up H.p (Kp.of kp)⟩
  refine wpAny_mono (wpB_sound (s₀ := s₁) Ok TO XO B (R.deeper env) (Around.frames_deeper hfr) body _ none s₁ p S1 Fl1 ⟨s₁.heap, s₁.toks, rfl⟩ (fun b o _ _ e => ⟨fun _ => e, o.slots, e⟩) Lv.refl fun a e => by cases e) (fun fl s' q => ?_) fun _ _ x => x
  obtain ⟨h1, tk1, rfl⟩ := sm
  obtain ⟨h', tk, σ', O', f, rfl, kx, S', fr, q⟩ := q
  cases f <;> first | exact q.elim | skip
  cases fl <;> first | exact fr.elim | skip
  refine ⟨h', tk, rfl, fun b o hP e => kx b o hP ⟨?_, fun z hz => ?_, by simp⟩ (kp b o e), S'.g, _, fr, q⟩
  · rintro rfl; rw [fL] at e; cases e
  · rw [fC z b hz] at e; cases e
end
section
set_option tactic.hygienic false
/-- texts, as values -/
noncomputable def SV (vs : List Value) (ss : List Str) : Prop := RepL (fun _ => none) vs (ss.map .str)
theorem SV.rep {g : View} {vs : List Value} {ss : List Str} (h : SV vs ss) : RepL g vs (ss.map .str) := RepL.imm (by rw [List.all_map]; exact List.all_eq_true.mpr fun _ _ => rfl) h
theorem SV.len {vs : List Value} {ss : List Str} (h : SV vs ss) : vs.length = ss.length := by rw [RepL.length h, List.length_map]
theorem SV.mem : ∀ {vs : List Value} {ss : List Str}, SV vs ss → ∀ v ∈ vs, ∃ x t, v = .str x t
  | [], _, _, v, hv => by cases hv
  | w :: vs, [], h, v, hv => by cases h
  | w :: vs, s :: ss, h, v, hv => by
    cases h with
    | cons a r =>
      rcases List.mem_cons.mp hv with rfl | hv
      · cases a; exact ⟨_, _, rfl⟩
      · exact SV.mem (ss := ss) r v hv
theorem SV.get {vs : List Value} {ss : List Str} (h : SV vs ss) {i : Nat} {x : Str} (e : ss[i]? = some x) : ∃ t, vs[i]? = some (.str x t) := by
  obtain ⟨v, hv, r⟩ := RepL.get h (i := i) (d := .str x) (by rw [List.getElem?_map, e]; rfl)
  cases r
  exact ⟨_, hv⟩
theorem SV.app {vs ws : List Value} {ss ts : List Str} (h : SV vs ss) (k : SV ws ts) : SV (vs ++ ws) (ss ++ ts) := by
  unfold SV at *
  rw [List.map_append]
  exact RepL.append k h
theorem SV.one (x : Str) (t : Tok) : SV [.str x t] [x] := .cons (.str x t) .nil
theorem SV.erase : ∀ {vs : List Value} {ss : List Str} (i : Nat), SV vs ss → SV (vs.eraseIdx i) (ss.eraseIdx i)
  | [], [], i, h => by simp; exact h
  | [], _ :: _, _, h => by cases h
  | _ :: _, [], _, h => by cases h
  | v :: vs, s :: ss, 0, h => by
    cases h with
    | cons a r => exact r
  | v :: vs, s :: ss, i + 1, h => by
    cases h with
    | cons a r => exact .cons a (SV.erase (ss := ss) i r)

section
variable {Y : Sys} {T : Tab} {k : Nat} {A : Around} {E : Value → Shared → Prop} {s : Shared} {hid : Addr → Bool} {env : Env} {sc : Scope} {ρ : List (Str × D)} {l : List Env}

/-- a frame with no name told -/
noncomputable abbrev Raw (Y : Sys) (sc : Scope) (env : Env) (hid : Addr → Bool) (h : Heap) : Prop := SSt Y sc env hid h ⟨[], none, true⟩ none

theorem raw_store (Ok : SysOk Y) (F : SFr Y env) {y : Str} {v : Value} {R : Unit → Shared → Prop} (S : Raw Y sc env hid s.heap) (hs : storable sc y = true)
    (hR : ∀ h' tk, Raw Y sc env hid h' → KpF Y env none s.heap h' → (∀ b o, isDat o = true → s.heap.get? b = some o → h'.get? b = some o) → VarAt env h' y v → (∀ z w, z ≠ y → VarAt env s.heap z w → VarAt env h' z w) → Lv s.heap h' → R () { s with heap := h', toks := tk }) :
    wpAny (model Y.prog Y.w) A (storeName env y v) R E s := by
  refine store_var (h := s.heap) Ok F S.V S.g S.ns hs fun h' tk p hp kk hd hv kv ns' cs' g' lp => ?_
  obtain ⟨op, ep, dp⟩ := hd
  have kx : KpF Y env none s.heap h' := fun b o _ hb e => kk b o (by
    rintro rfl
    rcases hp with rfl | ⟨z, hz⟩
    · exact hb.1 rfl
    · exact hb.2.1 _ hz) e
  have kd : ∀ b o, isDat o = true → s.heap.get? b = some o → h'.get? b = some o := fun b o hd e => kk b o (by
    rintro rfl
    rw [ep] at e; cases e; rw [dp] at hd; cases hd) e
  refine hR h' tk ⟨⟨S.V.kind, S.V.sce, S.V.glob, S.V.bui, S.V.baseL, S.V.cells, cs', fun x d e => by cases e⟩, g', ⟨S.H.p, fun b hb => ?_, S.H.cst⟩, ns', trivial⟩ kx kd hv kv fun b o e => ?_
  · by_cases hbp : b = p
    · subst hbp; exact lp
    · obtain ⟨o, e⟩ := S.H.live b hb; exact ⟨o, kk b o hbp e⟩
  · by_cases hb : b = p
    · subst hb; exact lp
    · exact ⟨o, kk b o hb e⟩

/-- a change at data that the frame has made -/
theorem raw_chg (Ok : SysOk Y) {L : List Addr} {h h' : Heap} (S : Raw Y sc env hid h) (kk : ∀ b o, b ∉ L → h.get? b = some o → h'.get? b = some o)
    (hA : ∀ I ∈ L, (∃ o, h.get? I = some o ∧ isDat o = true ∧ notCode o) ∧ (∃ o, h'.get? I = some o) ∧ Y.base.get? I = none ∧ I ≠ Y.P) : Raw Y sc env hid h' ∧ ∀ x v, VarAt env h x v → VarAt env h' x v := by
  have nL : ∀ {a : Addr} {m : Str → Option Value}, h.Ns a m → a ∉ L := fun n hm => by
    obtain ⟨⟨o, e, d, _⟩, _⟩ := hA _ hm
    rw [ns_isDat n o e] at d; cases d
  have nC : ∀ {a : Addr} {m : Option Value}, h.IsCell a m → a ∉ L := fun n hm => by
    obtain ⟨⟨o, e, d, _⟩, _⟩ := hA _ hm
    rw [cell_isDat n o e] at d; cases d
  have vv : ∀ x v, VarAt env h x v → VarAt env h' x v := by
    intro x v hv
    rcases hv with ⟨q, m, n, hm⟩ | ⟨q, hc, c, e, n⟩
    · exact .inl ⟨q, m, n.at' fun o e => kk _ o (nL n) e, hm⟩
    · obtain ⟨o, e2, d2⟩ := id n
      exact .inr ⟨q, hc, c, e, o, kk c o (nC n) e2, d2⟩
  refine ⟨⟨⟨S.V.kind, S.V.sce, S.V.glob, S.V.bui, S.V.baseL, S.V.cells, fun z c e => ?_, fun x d e => by cases e⟩, ?_, ⟨S.H.p, fun b hb => ?_, S.H.cst⟩, ?_, trivial⟩, vv⟩
  · obtain ⟨v, n⟩ := S.V.cellAt z c e
    obtain ⟨o, e2, d2⟩ := id n
    exact ⟨v, o, kk c o (nC n) e2, d2⟩
  · exact Ok.chg h h' L S.g (fun a ha => by
      obtain ⟨⟨o, e, _, nc⟩, _, hb, hP⟩ := hA a ha
      exact ⟨hb, hP, fun o' e' => by rw [e] at e'; cases e'; exact nc⟩) kk
  · by_cases q : b ∈ L
    · exact (hA b q).2.1
    · obtain ⟨o, e⟩ := S.H.live b hb; exact ⟨o, kk b o q e⟩
  · obtain ⟨m, n⟩ := S.ns; exact ⟨m, n.at' fun o e => kk _ o (nL n) e⟩

theorem isl_dat {h : Heap} {a : Addr} {vs : Array Value} {n : Nat} (i : IsL h a vs n) : ∃ o, h.get? a = some o ∧ isDat o = true ∧ notCode o := ⟨_, i, rfl, fun vs q t e => by cases e⟩
theorem isl_notP (Ok : SysOk Y) {h : Heap} (g : Y.G h) {a : Addr} {vs : Array Value} {n : Nat} (i : IsL h a vs n) : a ≠ Y.P := list_notP Ok g i.isList
theorem seq_up {h h' : Heap} {a : Addr} {vs : Array Value} {n : Nat} (i : IsL h a vs n) (k : ∀ b o, isDat o = true → h.get? b = some o → h'.get? b = some o) : IsL h' a vs n := k a _ rfl i
end

/-- what is left when the one list's texts are taken out of the other -/
noncomputable def unord : List Str → List Str → List Str → List Str × List Str
  | [], ys, ms => (ms, ys)
  | x :: r, ys, ms => if x ∈ ys then unord r (ys.erase x) ms else unord r ys (ms ++ [x])
end
section
set_option tactic.hygienic false
theorem Kps_of {Y : Sys} {l : List Env} {h1 h2 h6 : Heap} (Ok : SysOk Y) (g : Y.G h1) (F : FrOk Y h1 l) (k : ∀ b o, h1.get? b = some o → h2.get? b = some o) (st : (hideAll h1 (frs l)).StaysIn h6) (u : h2.UpToSlots h6) : KpS Y l h1 h6 ∧ Y.G h6 := by
  have kp : KpS Y l h1 h6 := fun b o hP e => by
    by_cases hb : b ∈ frs l
    · refine ⟨fun q => absurd hb q, ?_⟩
      obtain ⟨m, n⟩ := frs_live F hb
      obtain ⟨o', es, ep, e', d, _⟩ := n
      rw [e] at e'; cases e'
      exact u b o (k b o e) fun vs q => by rw [d] at q; cases q
    · have := st b o (hideAll_get _ e hb)
      exact ⟨fun _ => this, o.slots, this⟩
  refine ⟨kp, Ok.chg h1 h6 (frs l) g (fun a ha => ?_) fun b o hb e => st b o (hideAll_get _ e hb)⟩
  obtain ⟨env, he, hf⟩ := List.mem_filterMap.mp ha
  obtain ⟨_, L, m, e, n, bn⟩ := F env he
  rw [hf] at e; cases e
  exact ⟨bn, ns_notP Ok g n, ns_notCode n⟩

section
variable {Y : Sys} {T : Tab} {k : Nat} {A : Around} {E : Value → Shared → Prop} {s : Shared} {hid : Addr → Bool} {env : Env} {sc : Scope} {ρ : List (Str × D)} {l : List Env}

theorem looks_first {M : Model} {base : Heap} {outer : List Env} {L e : Addr} {oe : Obj} {vs : Array Value} {a0 : Value} {Q : Unit → Shared → Prop}
    (hfr : A.frames = some (env :: outer)) (hl : s.heap.FunFrames base (env :: outer)) (hf : env.frame = some L)
    (he : s.heap.get? e = some oe) (hkb : base.StaysIn s.heap) (hen : base.get? e = none) (hd : oe.data = .fields vs) (h1 : vs[1]? = some .none) (h0 : vs[0]? = some a0)
    (hQ : ∀ h', Heap.HeldW base (env :: outer) e oe.cls a0 L h' → s.heap.UpToSlots h' → Q () { s with heap := h' }) : wpAny M A (noteFrame (.ref e) env) Q E s := by
  unfold noteFrame
  simp only [hf]
  refine wpAny_bind (wpAny_field he hd h1 ?_)
  rw [if_neg (by decide)]
  exact wpAny_entryW hfr hl hf he hkb hen hd (Array.getElem?_eq_some_iff.mp h1).1 h0 fun h' ⟨k1, k2, k3, k4⟩ => hQ h' ⟨k1, hen, k2, k3⟩ k4

/-- a ValueError that is made in this frame is caught by the frame's own clause -/
theorem caught_here (Ok : SysOk Y) {pn pos : Pos} {b₀ : Stmt} {suite : List Stmt} {rest : List ExceptHandler} {Q : Flow → Shared → Prop} {h1 : Heap} {e : Addr} (B : BFr Y env l) (hfr : A.frames = some (env :: l))
    (S : Raw Y sc env hid h1) (Fl : FrOk Y h1 l) (hx : Heap.NewExc h1 s.heap e "ValueError") (hg : globalKind sc (Str.ofString "ValueError") = true)
    (hQ : ∀ h', KpS Y (env :: l) h1 h' → Raw Y sc env hid h' → wpAny (model Y.prog Y.w) (A.mark (some (.ref e))) (execs (b₀ :: suite) env) Q (notedBy (model Y.prog Y.w) (A.mark (some (.ref e))) env (cameBackBy (model Y.prog Y.w) A env E)) { s with heap := h' }) :
    wpAny (model Y.prog Y.w) A (noteFrame (.ref e) env) (fun _ s₂ => wpAny (model Y.prog Y.w) A (setFlight (.ref e) none) (fun _ s₃ =>
      wpAny (model Y.prog Y.w) A (handleBy (.ref e) env (.ExceptHandler (some (.Name (Str.ofString "ValueError") pn)) none (b₀ :: suite) pos :: rest)) Q E s₃) E s₂) E s := by
  have Fm := frok_me B Fl S
  have F2 : FrOk Y s.heap (env :: l) := Fm.keeps fun b o _ q => hx.keeps b o q
  have hB : ∀ b ∈ frs (env :: l), (hideAll h1 (frs (env :: l))).get? b = none := fun b hb => hideAll_none _ hb
  obtain ⟨ob, t, he, hcls, hd⟩ := hx.there
  have st1 : (hideAll h1 (frs (env :: l))).StaysIn s.heap := fun b o q => hx.keeps b o (of_hideAll _ q)
  have hen : (hideAll h1 (frs (env :: l))).get? e = none := by
    cases q : (hideAll h1 (frs (env :: l))).get? e with
    | none => rfl
    | some o => have := of_hideAll _ q; rw [hx.new] at this; cases this
  refine looks_first hfr (F2.fun Ok hB) B.frame he st1 hen hd rfl rfl fun h2 hh u2 => ?_
  refine wpAny_landsW (s := { s with heap := h2 }) hh fun h3 hfl u3 => ?_
  obtain ⟨kp3, g3⟩ := Kps_of Ok S.g Fm hx.keeps hfl.1 (u2.trans u3)
  have S3 := S.kps Ok Fm kp3 g3
  obtain ⟨ob3, hob3, hc3⟩ := hfl.there
  have hv : biVal (Str.ofString "ValueError") = some (.type "ValueError") := by decide +kernel
  refine wpAny_handleBy_builtin (X := "ValueError") (T := "ValueError") (b := true) (F.isExc_ValueError) (F.notTuple_ValueError) (F.self_ValueError) (load_bi (s := { s with heap := h3 }) Ok S3.V g3 hg (by decide +kernel) hv ⟨rfl, ⟨ob3, hob3, hc3.trans hcls⟩, ?_⟩)
  refine lands_againW (s := { s with heap := h3 }) hfl fun h4 hfl4 u4 => ?_
  obtain ⟨kp4, g4⟩ := Kps_of Ok S.g Fm hx.keeps hfl4.1 ((u2.trans u3).trans u4)
  exact hQ h4 kp4 (S.kps Ok Fm kp4 g4)
end
end
section
set_option tactic.hygienic false
section
variable {Y : Sys} {T : Tab} {k : Nat} {A : Around} {E : Value → Shared → Prop} {s : Shared} {hid : Addr → Bool} {env : Env} {sc : Scope} {ρ : List (Str × D)} {l : List Env}

theorem m_pop (S : Raw Y sc env hid s.heap) {x : Str} {px ap cp : Pos} {p : Addr} {vs : List Value} {y : Value} {n : Nat} {Q : Value → Shared → Prop} (hd : (x == ("__debug__" : Str)) = false) (hv : VarAt env s.heap x (.ref p)) (i : IsL s.heap p (vs ++ [y]).toArray n) (hz : vs.length ≤ 100) (hl : (ap.endLine == cp.line) = true)
    (h : ∀ h' n', IsL h' p vs.toArray n' → (∀ b o, b ≠ p → s.heap.get? b = some o → h'.get? b = some o) → Q y { s with heap := h' }) :
    wpAny (model Y.prog Y.w) A (eval (.Call (.Attribute (.Name x px) (Str.ofString "pop") ap) [] [] cp) env) Q E s := by
  refine wpAny_Call_method (T := "list") (id := "list.pop") rfl rfl hl F.plainAttrs_list F.slot_list_pop F.type_list_pop (load_var S.V hd hv ⟨⟨_, i, rfl⟩, fun a e => by cases e; exact ⟨_, i, rfl⟩, ?_⟩)
  have e : (vs ++ [y]).toArray.size = vs.length + 1 := by simp
  refine P.pop_list i (y := y) (by rw [e]; simp) ?_ (by rw [e]; exact Nat.le_trans (by (first | lia | omega) : vs.length + 1 ≤ 101) (by decide))
  have e2 : (vs ++ [y]).toArray.eraseIdxIfInBounds ((vs ++ [y]).toArray.size - 1) = vs.toArray := by
    rw [e]
    have hlt : vs.length + 1 - 1 < (vs ++ [y]).toArray.size := by simp
    rw [Array.eraseIdxIfInBounds, dif_pos hlt]
    apply Array.ext'
    rw [Array.toList_eraseIdx]
    show (vs ++ [y]).eraseIdx (vs.length + 1 - 1) = vs
    rw [Nat.add_sub_cancel, List.eraseIdx_append_of_length_le (Nat.le_refl _)]
    simp
  have iu := i.update (fun xs => xs.eraseIdxIfInBounds ((vs ++ [y]).toArray.size - 1))
  rw [e2] at iu
  exact h _ _ iu fun b o hb eb => (Heap.get?_update_other _ _ (Ne.symm hb)).trans eb

theorem m_append (S : Raw Y sc env hid s.heap) {x z : Str} {px pz ap cp : Pos} {p : Addr} {vs : List Value} {y : Value} {n : Nat} {Q : Value → Shared → Prop} (hd : (x == ("__debug__" : Str)) = false) (hd' : (z == ("__debug__" : Str)) = false) (hv : VarAt env s.heap x (.ref p)) (hw : VarAt env s.heap z y) (i : IsL s.heap p vs.toArray n) (hz : vs.length ≤ 100) (hl : (ap.endLine == cp.line) = true)
    (h : ∀ h' n', IsL h' p (vs ++ [y]).toArray n' → (∀ b o, b ≠ p → s.heap.get? b = some o → h'.get? b = some o) → Q .none { s with heap := h' }) :
    wpAny (model Y.prog Y.w) A (eval (.Call (.Attribute (.Name x px) (Str.ofString "append") ap) [.Name z pz] [] cp) env) Q E s := by
  refine wpAny_Call_method (T := "list") (id := "list.append") rfl rfl hl F.plainAttrs_list F.slot_list_append F.type_list_append (load_var S.V hd hv ⟨⟨_, i, rfl⟩, fun a e => by cases e; exact ⟨_, i, rfl⟩, ?_⟩)
  refine P.append_list (load_var S.V hd' hw ⟨vs.toArray, n, by simp; exact Nat.le_trans hz (by decide), i, ?_⟩)
  have iu := i.update (fun xs => xs.push y)
  have e2 : vs.toArray.push y = (vs ++ [y]).toArray := by simp
  rw [e2] at iu
  exact h _ _ iu fun b o hb eb => (Heap.get?_update_other _ _ (Ne.symm hb)).trans eb

theorem m_remove (S : Raw Y sc env hid s.heap) {x z : Str} {px pz ap cp : Pos} {p : Addr} {vs : List Value} {ys : List Str} {y : Str} {t : Tok} {n : Nat} {Q : Value → Shared → Prop} (hA : A.handled = none) (hd : (x == ("__debug__" : Str)) = false) (hd' : (z == ("__debug__" : Str)) = false) (hv : VarAt env s.heap x (.ref p)) (hw : VarAt env s.heap z (.str y t)) (i : IsL s.heap p vs.toArray n) (sv : SV vs ys) (hz : vs.length ≤ 100) (hl : (ap.endLine == cp.line) = true)
    (h : y ∈ ys → ∀ h' n' vs', IsL h' p vs'.toArray n' → SV vs' (ys.erase y) → (∀ b o, b ≠ p → s.heap.get? b = some o → h'.get? b = some o) → Q .none { s with heap := h' })
    (hE : y ∉ ys → ∀ h' tk e, Heap.NewExc s.heap h' e "ValueError" → E (.ref e) { s with heap := h', toks := tk }) :
    wpAny (model Y.prog Y.w) A (eval (.Call (.Attribute (.Name x px) (Str.ofString "remove") ap) [.Name z pz] [] cp) env) Q E s := by
  refine wpAny_Call_method (T := "list") (id := "list.remove") rfl rfl hl F.plainAttrs_list F.slot_list_remove F.type_list_remove (load_var S.V hd hv ⟨⟨_, i, rfl⟩, fun a e => by cases e; exact ⟨_, i, rfl⟩, ?_⟩)
  have key : ∀ (j : Nat) (hj : j < vs.toArray.size), ∃ z u, vs.toArray[j] = .str z u ∧ ys[j]? = some z := by
    intro j hj
    have hj' : j < ys.length := by rw [← sv.len]; simpa using hj
    obtain ⟨u, hu⟩ := sv.get (i := j) (x := ys[j]) (List.getElem?_eq_getElem hj')
    refine ⟨ys[j], u, ?_, List.getElem?_eq_getElem hj'⟩
    have := (List.getElem?_eq_some_iff.mp hu).2
    simpa using this
  have he : ∀ v ∈ vs.toArray, MeetsSeq.EqGives v (.str y t) (isStrOf y v) := by
    intro v hv
    obtain ⟨z, u, rfl⟩ := sv.mem v (by simpa using hv)
    exact eqGives_str z y u t
  by_cases hy : y ∈ ys
  · -- found
    have hi : ys.idxOf y < ys.length := List.idxOf_lt_length_of_mem hy
    have hi' : ys.idxOf y < vs.toArray.size := by simpa [sv.len] using hi
    refine P.remove_list (load_var S.V hd' hw ⟨vs.toArray, n, isStrOf y, ys.idxOf y, hi', by simp; exact Nat.le_trans hz (by decide), i, he, ?_, ?_, ?_⟩)
    · obtain ⟨z, u, e1, e2⟩ := key _ hi'
      rw [e1]
      have : z = y := by
        rw [List.getElem?_eq_getElem hi] at e2
        have e3 := List.getElem_idxOf hi
        rw [e3] at e2
        exact (Option.some.inj e2).symm
      subst this
      show (z == z) = true
      simp
    · intro m hm hlt
      obtain ⟨z, u, e1, e2⟩ := key _ hm
      rw [e1]
      show (z == y) = false
      have hm' : m < ys.length := by (first | lia | omega)
      rw [List.getElem?_eq_getElem hm'] at e2
      have := List.not_of_lt_findIdx (p := (· == y)) (xs := ys) hlt
      rw [← Option.some.inj e2]
      exact this
    · have iu := i.update (fun xs => xs.eraseIdxIfInBounds (ys.idxOf y))
      have e2 : vs.toArray.eraseIdxIfInBounds (ys.idxOf y) = (vs.eraseIdx (ys.idxOf y)).toArray := by
        rw [Array.eraseIdxIfInBounds, dif_pos hi']
        apply Array.ext'
        rw [Array.toList_eraseIdx]
      rw [e2] at iu
      refine h hy _ _ _ iu ?_ fun b o hb eb => (Heap.get?_update_other _ _ (Ne.symm hb)).trans eb
      rw [List.erase_eq_eraseIdx_of_idxOf rfl]
      exact sv.erase _
  · refine seqMethod1_meets F.slot_list_remove F.entry_list_remove (load_var S.V hd' hw ⟨⟨_, i, rfl⟩, F.args_list_remove_2 _ _, _, MeetsSeq.list_remove_none p vs.toArray n (.str y t) (isStrOf y) he ?_, i, hA, fun h' tk e hx => hE hy h' tk e hx⟩)
    intro m hm
    obtain ⟨z, u, e1, e2⟩ := key _ hm
    rw [e1]
    show (z == y) = false
    rw [beq_eq_false_iff_ne]
    rintro rfl
    exact hy (List.mem_of_getElem? e2)
end
end
section
set_option tactic.hygienic false
/-- all is kept but two lists and the frames' slots -/
noncomputable def KpU (Y : Sys) (l : List Env) (p1 p2 : Addr) (h h' : Heap) : Prop := ∀ b o, b ≠ Y.P → b ≠ p1 → b ≠ p2 → h.get? b = some o → (b ∉ frs l → h'.get? b = some o) ∧ ∃ sl, h'.get? b = some { o with slots := sl }
theorem ne_of_beq_false {a b : Str} (h : (a == b) = false) : a ≠ b := by
  rintro rfl; simp at h
theorem sv_snoc {vs : List Value} {ss : List Str} {x : Str} (h : SV vs (ss ++ [x])) : ∃ ws t, vs = ws ++ [.str x t] ∧ SV ws ss := by
  induction ss generalizing vs with
  | nil => exact RepL.consE (C := fun vs => ∃ ws t, vs = ws ++ [.str x t] ∧ SV ws []) h fun v r a b => RepL.nilE b (Rep.strE a fun t => ⟨[], t, rfl, .nil⟩)
  | cons y ss ih =>
    exact RepL.consE (C := fun vs => ∃ ws t, vs = ws ++ [.str x t] ∧ SV ws (y :: ss)) h fun v r a b => by
      obtain ⟨ws, t, rfl, hw⟩ := ih b
      exact ⟨v :: ws, t, rfl, .cons a hw⟩
noncomputable abbrev dSs (ss : List Str) : D := .list (ss.map .str)
noncomputable def UnordOk (Y : Sys) (n : Nat) (a : Addr) : Prop :=
  ∀ (A : Around) (s : Shared) (hid : Addr → Bool) (l : List Env) (p1 p2 : Addr) (n1 n2 : Nat) (xv yv : List Value) (xs ys : List Str) (Q : Value → Shared → Prop) (E : Value → Shared → Prop),
    Room n A → A.frames = some l → FrOk Y s.heap l → Y.G s.heap → HidOk Y hid s.heap → p1 ≠ p2 → hid p2 = false → IsL s.heap p1 xv.toArray n1 → IsL s.heap p2 yv.toArray n2 → SV xv xs → SV yv ys → xs.length ≤ 8 → ys.length ≤ 8 → Y.base.get? p1 = none → Y.base.get? p2 = none →
    (∀ h' tk v n1 n2 yv', KpU Y l p1 p2 s.heap h' → Y.G h' → IsL h' p1 #[] n1 → IsL h' p2 yv'.toArray n2 → SV yv' (unord xs.reverse ys []).2 → Rep (vis h' hid) v (.tuple [dSs (unord xs.reverse ys []).1, dSs (unord xs.reverse ys []).2]) → Q v { s with heap := h', toks := tk }) →
    wpAny (model Y.prog Y.w) A (call (.ref a) [.ref p1, .ref p2]) Q E s

/-- the state ahead of a turn -/
structure UnI (Y : Sys) (P : Params) (l : List Env) (env : Env) (hid : Addr → Bool) (s : Shared) (p1 p2 p3 : Addr) (xs ys : List Str) (xv : List Value) (n1 : Nat) (xs' : List Str) (yv : List Value) (ys' : List Str) (n2 : Nat) (mv : List Value) (ms : List Str) (n3 : Nat) (h : Heap) : Prop where
  S : Raw Y (fdOf 110 P).scope env hid h
  Fl : FrOk Y h l
  ku : KpU Y l p1 p2 s.heap h
  vE : VarAt env h (Str.ofString "expected") (.ref p1)
  vA : VarAt env h (Str.ofString "actual") (.ref p2)
  vM : VarAt env h (Str.ofString "missing") (.ref p3)
  i1 : IsL h p1 (List.toArray xv) n1
  s1 : SV xv xs'
  i2 : IsL h p2 (List.toArray yv) n2
  s2 : SV yv ys'
  i3 : IsL h p3 (List.toArray mv) n3
  s3 : SV mv ms
  z1 : xs'.length + ms.length ≤ 8
  z2 : ys'.length ≤ 8
  un : unord xs'.reverse ys' ms = unord xs.reverse ys []
theorem frOk_ne {Y : Sys} {h : Heap} {l : List Env} {b p : Addr} {o : Obj} (F : FrOk Y h l) (hb : b ∈ frs l) (i : h.get? p = some o) (hd : Mine.isDat o = true) : b ≠ p := fun q => by rw [F.isDat (q ▸ hb) o i] at hd; cases hd
section
variable {Y : Sys} {T : Tab} {k : Nat}
theorem unord_ok (Ok : SysOk Y) (TO : TabOk Y k T) (P : Params) (N : FnAt Y 110 (fdOf 110 P) (bodyOf 110 P) [Str.ofString "expected", Str.ofString "actual"]) : UnordOk Y (k + 1) 110 := by
  intro A s hid l p1 p2 n1 n2 xv yv xs ys Q E R hfr Fl g H hpp hh2 i1 i2 sv1 sv2 hz1 hz2 b1 b2 hQ
  refine fn_raw Ok N R g H rfl fun env s₁ sm kp fL fC Fr eF S0 hv => ?_
  have B := bfr_of Ok Fl g Fr eF fL fC
  obtain ⟨h1, tk1, rfl⟩ := sm
  have hvE := (hv (Str.ofString "expected") (.ref p1) (.head _)).2
  have hvA := (hv (Str.ofString "actual") (.ref p2) (.tail _ (.head _))).2
  have hhA : (A.deeper env).handled = none := (R.deeper env).h
  conv in (bodyOf 110 P) => whnf
  have st1 : storable (fdOf 110 P).scope (Str.ofString "missing") = true := by with_unfolding_all rfl
  have st2 : storable (fdOf 110 P).scope (Str.ofString "item") = true := by with_unfolding_all rfl
  have hgV : globalKind (fdOf 110 P).scope (Str.ofString "ValueError") = true := by with_unfolding_all rfl
  have hint : interactive env = false := by unfold interactive; rw [S0.V.kind]; rfl
  have dE : (Str.ofString "expected" == ("__debug__" : Str)) = false := by kernel_rfl!
  have dA : (Str.ofString "actual" == ("__debug__" : Str)) = false := by kernel_rfl!
  have dM : (Str.ofString "missing" == ("__debug__" : Str)) = false := by kernel_rfl!
  have dI : (Str.ofString "item" == ("__debug__" : Str)) = false := by kernel_rfl!
  have nEM : Str.ofString "expected" ≠ Str.ofString "missing" := ne_of_beq_false (by kernel_rfl!)
  have nAM : Str.ofString "actual" ≠ Str.ofString "missing" := ne_of_beq_false (by kernel_rfl!)
  have nEI : Str.ofString "expected" ≠ Str.ofString "item" := ne_of_beq_false (by kernel_rfl!)
  have nAI : Str.ofString "actual" ≠ Str.ofString "item" := ne_of_beq_false (by kernel_rfl!)
  have nMI : Str.ofString "missing" ≠ Str.ofString "item" := ne_of_beq_false (by kernel_rfl!)
  -- what was there is kept, step by step
  have live_ne : ∀ b o, s.heap.get? b = some o → b ≠ env.locals ∧ (∀ z, env.cells.lookup z ≠ some b) := fun b o e => by
    have q1 : b ≠ env.locals := by rintro rfl; rw [fL] at e; cases e
    have q2 : ∀ z, env.cells.lookup z ≠ some b := fun z hz => by rw [fC z b hz] at e; cases e
    exact ⟨q1, q2⟩
  have kstep : ∀ h h', KpU Y l p1 p2 s.heap h → (∀ b o, (∃ o', s.heap.get? b = some o') → b ≠ Y.P → b ≠ p1 → b ≠ p2 → h.get? b = some o → (b ∉ frs l → h'.get? b = some o) ∧ ∃ sl, h'.get? b = some { o with slots := sl }) → KpU Y l p1 p2 s.heap h' := by
    intro h h' a c b o hP q1 q2 e
    obtain ⟨a1, sl, a2⟩ := a b o hP q1 q2 e
    obtain ⟨c1, sl2, c2⟩ := c b _ ⟨o, e⟩ hP q1 q2 a2
    exact ⟨fun hb => (c b o ⟨o, e⟩ hP q1 q2 (a1 hb)).1 hb, sl2, c2⟩
  have keep1 : ∀ {h' : Heap} {b : Addr} {o : Obj}, h'.get? b = some o → (b ∉ frs l → h'.get? b = some o) ∧ ∃ sl, h'.get? b = some { o with slots := sl } := fun e => ⟨fun _ => e, _, e⟩
  -- missing = []
  refine wpAny_execs_cons (wpAny_Assign_Name (List_ (spliced_none (wpAny_newList ?_ (Nat.zero_le _)))) rfl)
  have f3 : h1.get? h1.objs.size = none := get_size _
  generalize hp3 : h1.objs.size = p3 at f3
  have f3s : s.heap.get? p3 = none := by
    cases q : s.heap.get? p3 with
    | none => rfl
    | some o => have := kp p3 o q; change h1.get? p3 = some o at this; rw [f3] at this; cases this
  have b3 : Y.base.get? p3 = none := Ok.fresh _ _ g f3s
  have h31 : p3 ≠ p1 := by rintro rfl; have q : s.heap.get? p3 = _ := i1; rw [f3s] at q; cases q
  have h32 : p3 ≠ p2 := by rintro rfl; have q : s.heap.get? p3 = _ := i2; rw [f3s] at q; cases q
  have hh3 : hid p3 = false := H.fresh f3s
  have kk2 : ∀ b o, h1.get? b = some o → (h1.push { cls := .type "list", data := .seq #[] }).get? b = some o := fun b o e => Heap.get?_push_of_some _ e
  have S1 : Raw Y (fdOf 110 P).scope env hid (h1.push { cls := .type "list", data := .seq #[] }) := S0.up Ok (Kp.of kk2) (Ok.mono _ _ S0.g kk2)
  have i3 : IsL (h1.push { cls := .type "list", data := .seq #[] }) p3 #[] 0 := by rw [← hp3]; exact Heap.get?_push_size _ rfl
  have ik1 : IsL (h1.push { cls := .type "list", data := .seq #[] }) p1 xv.toArray n1 := kk2 _ _ (kp _ _ i1)
  have ik2 : IsL (h1.push { cls := .type "list", data := .seq #[] }) p2 yv.toArray n2 := kk2 _ _ (kp _ _ i2)
  have vup : ∀ x v, VarAt env h1 x v → VarAt env (h1.push { cls := .type "list", data := .seq #[] }) x v := fun x v hv => hv.up Ok S0.g (Kp.of kk2)
  have Fl1 : FrOk Y (h1.push { cls := .type "list", data := .seq #[] }) l := Fl.keeps fun b o _ e => kk2 _ _ (kp b o e)
  have ku1 : KpU Y l p1 p2 s.heap (h1.push { cls := .type "list", data := .seq #[] }) := fun b o _ _ _ e => ⟨fun _ => kk2 _ _ (kp b o e), o.slots, kk2 _ _ (kp b o e)⟩
  show wpAny _ _ (storeName env (Str.ofString "missing") (.ref p3)) _ _ { s with heap := h1.push { cls := .type "list", data := .seq #[] }, toks := tk1 }
  generalize hh2' : h1.push { cls := .type "list", data := .seq #[] } = h2 at S1 i3 ik1 ik2 vup Fl1 ku1 kk2 ⊢
  refine raw_store (s := { s with heap := h2, toks := tk1 }) Ok Fr S1 st1 fun h4 tk4 S4 kf4 kd4 vM4 vo4 lv4 => ?_
  have ku4 : KpU Y l p1 p2 s.heap h4 := kstep _ _ ku1 fun b o hl hP q1 q2 e => by
    obtain ⟨o', eo⟩ := hl
    obtain ⟨a1, a2⟩ := live_ne b o' eo
    have := kf4 b o hP ⟨a1, a2, by simp⟩ e
    exact ⟨fun _ => this, o.slots, this⟩
  have Fl4 : FrOk Y h4 l := frok_kpf B Fl1 S1 kf4
  -- the loop
  refine wpAny_execs_cons (wpAny_While ?_)
  refine codeAny_whileLoop (fun i s' => ∃ h tk xv n1 xs' yv ys' n2 mv ms n3, i = List.length xs' ∧ s' = { s with heap := h, toks := tk } ∧ UnI Y P l env hid s p1 p2 p3 xs ys xv n1 xs' yv ys' n2 mv ms n3 h) ?_ xs.length
    ⟨h4, tk4, xv, n1, xs, yv, ys, n2, [], [], 0, rfl, rfl, S4, Fl4, ku4, vo4 _ _ nEM (vup _ _ hvE), vo4 _ _ nAM (vup _ _ hvA), vM4, seq_up ik1 kd4, sv1, seq_up ik2 kd4, sv2, seq_up i3 kd4, .nil, by simpa using hz1, hz2, rfl⟩
  have l1 : ∃ o, s.heap.get? p1 = some o := ⟨_, i1⟩
  have l2 : ∃ o, s.heap.get? p2 = some o := ⟨_, i2⟩
  clear S4 kf4 kd4 vM4 vo4 lv4 ku4 Fl4 S1 i3 ik1 ik2 vup Fl1 ku1 kk2 hh2' h2 i1 i2 sv1 sv2 hz1 hz2 hvE hvA n1 n2 xv yv h4 tk4
  rintro i s' ⟨h, tk, xv, n1, xs', yv, ys', n2, mv, ms, n3, rfl, rfl, J⟩
  obtain ⟨S, Fl', ku, vE, vA, vM, i1, sv1, i2, sv2, i3, sv3, hz1, hz2, hun⟩ := J
  have lx : xv.length = xs'.length := sv1.len
  have lm : mv.length = ms.length := sv3.len
  have ly : yv.length = ys'.length := sv2.len
  refine wpAny_isTrue_value (load_var (s := { s with heap := h, toks := tk }) S.V dE vE (wpAny_truthy_list i1.isList (by simp; (first | lia | omega)) ?_)) rfl
  cases hx : xs'.reverse with
  | nil =>
    have hx0 : xs' = [] := by simpa using hx
    subst hx0
    have : xv = [] := List.length_eq_zero_iff.mp lx
    subst this
    show wpAny _ _ (execs [] env) _ _ _
    refine wpAny_execs_nil ?_
    have hun : (ms, ys') = unord xs.reverse ys [] := hun
    rw [← hun] at hQ
    show wpAny (model Y.prog Y.w) (A.deeper env) (execs [_] env) _ _ { s with heap := h, toks := tk + 1 + 1 }
    have S5 : SSt Y (fdOf 110 P).scope env hid h ⟨[(Str.ofString "missing", dSs ms), (Str.ofString "actual", dSs ys')], none, true⟩ none := S.withVars (lkE ⟨dM, _, vM, .list (vis_of i3 hh3) rfl rfl sv3.rep⟩ (lkE ⟨dA, _, vA, .list (vis_of i2 hh2) rfl rfl sv2.rep⟩ lkN))
    have hw : ∀ (pa pb pc pd : Pos) (kk : Nat), wpSs T 10 (fdOf 110 P).scope [.Return (some (.Tuple [.Name (Str.ofString "missing") pa, .Name (Str.ofString "actual") pb] kk pc)) pd] ⟨[(Str.ofString "missing", dSs ms), (Str.ofString "actual", dSs ys')], none, true⟩ (fun fl _ => fl = .ret (.tuple [dSs ms, dSs ys'])) := fun pa pb pc pd kk =>
      ssCons (sRet (eTuple (esCons rfl (eName (d := dSs ms) (by with_unfolding_all rfl) (esCons rfl (eName (d := dSs ys') (by with_unfolding_all rfl) (esNil ⟨by show 2 ≤ sizeLine; decide, thRet rfl⟩)))))))
    have hret := fun pa pb pc pd kk => (wpS_sound Ok TO 10).2 10 (Nat.le_refl _) (fdOf 110 P).scope _ ⟨[(Str.ofString "missing", dSs ms), (Str.ofString "actual", dSs ys')], none, true⟩ (fun fl _ => fl = .ret (.tuple [dSs ms, dSs ys'])) (A.deeper env) { s with heap := h, toks := tk + 1 + 1 } env hid none (fun e s' => wpAny (model Y.prog Y.w) (A.deeper env) (leaving env e) (fun _ s'' => E e s'') (fun e' s'' => E e' s'') s')
      (hw pa pb pc pd kk) Fr S5 (R.deeper env)
    refine wpAny_mono (hret _ _ _ _ _) (fun fl s' q => ?_) fun _ _ x => x
    obtain ⟨h', tk', σ', O', f, rfl, kx, lv, S', c, fr, rfl⟩ := q
    cases fl <;> first | exact fr.elim | skip
    have kl : ∀ b o, (∃ o', s.heap.get? b = some o') → b ≠ Y.P → h.get? b = some o → h'.get? b = some o := fun b o ⟨o', eo⟩ hP e => by
      obtain ⟨a1, a2⟩ := live_ne b o' eo
      exact kx b o hP ⟨a1, a2, by simp⟩ e
    refine hQ h' tk' _ n1 n2 yv (kstep _ _ ku fun b o hl hP _ _ e => keep1 (kl b o hl hP e)) S'.g (kl _ _ l1 (isl_notP Ok S.g i1) i1) (kl _ _ l2 (isl_notP Ok S.g i2) i2) sv2 fr
  | cons x r =>
    have hxs : xs' = r.reverse ++ [x] := by
      have := congrArg List.reverse hx
      simpa using this
    subst hxs
    obtain ⟨xv, t, rfl, svx⟩ := sv_snoc sv1
    rw [hx] at hun
    have lxv : xv.length = r.reverse.length := svx.len
    have hz1' : r.reverse.length + ms.length + 1 ≤ 8 := by rw [List.length_append, List.length_singleton] at hz1; (first | lia | omega)
    have hne : (!(xv ++ [Value.str x t]).toArray.isEmpty) = true := by simp
    rw [hne]
    show wpAny (model Y.prog Y.w) (A.deeper env) (execs [_, _] env) _ _ { s with heap := h, toks := tk + 1 + 1 }
    refine gen_post (fun RR => ∀ h tk xv n1 xs2 yv ys2 n2 mv ms n3, List.length xs2 < (r.reverse ++ [x]).length → UnI Y P l env hid s p1 p2 p3 xs ys xv n1 xs2 yv ys2 n2 mv ms n3 h → RR .next { s with heap := h, toks := tk }) (fun h tk xv n1 xs2 yv ys2 n2 mv ms n3 lt J => ⟨_, lt, h, tk, xv, n1, xs2, yv, ys2, n2, mv, ms, n3, rfl, rfl, J⟩) fun RR hR => gen_err fun E1 => ?_
    refine wpAny_execs_cons (wpAny_Assign_Name (m_pop (s := { s with heap := h, toks := tk + 1 + 1 }) S dE vE i1 (by (first | lia | omega)) rfl fun h5 n5 i15 kk5 => ?_) rfl)
    obtain ⟨S5, v5⟩ := raw_chg (L := [p1]) Ok S (fun b o hb e => kk5 b o (nm1 hb) e) (mem1E ⟨isl_dat i1, ⟨_, i15⟩, b1, isl_notP Ok S.g i1⟩)
    have i25 : IsL h5 p2 _ _ := kk5 p2 _ (fun q => hpp q.symm) i2
    have i35 : IsL h5 p3 _ _ := kk5 p3 _ h31 i3
    have ku5 := kstep _ h5 ku fun b o hl hP q1 q2 e => keep1 (kk5 b o q1 e)
    have Fl5 : FrOk Y h5 l := Fl'.keeps fun b o hb e => kk5 b o (frOk_ne Fl' hb i1 rfl) e
    show wpAny _ _ (storeName env (Str.ofString "item") (.str x t)) _ _ { s with heap := h5, toks := tk + 1 + 1 }
    refine raw_store (s := { s with heap := h5, toks := tk + 1 + 1 }) Ok Fr S5 st2 fun h6 tk6 S6 kf6 kd6 vI6 vo6 lv6 => ?_
    have ku6 := kstep _ h6 ku5 fun b o hl hP q1 q2 e => by
      obtain ⟨o', eo⟩ := hl
      obtain ⟨a1, a2⟩ := live_ne b o' eo
      exact keep1 (kf6 b o hP ⟨a1, a2, by simp⟩ e)
    have Fl6 : FrOk Y h6 l := frok_kpf B Fl5 S5 kf6
    have i16 := seq_up i15 kd6
    have i26 := seq_up i25 kd6
    have i36 := seq_up i35 kd6
    have vE6 := vo6 _ _ nEI (v5 _ _ vE)
    have vA6 := vo6 _ _ nAI (v5 _ _ vA)
    have vM6 := vo6 _ _ nMI (v5 _ _ vM)
    refine wpAny_execs_cons (wpAny_Try_except ?_)
    refine wpAny_execs_cons (wpAny_Expr_any (m_remove (s := { s with heap := h6, toks := tk6 }) S6 hhA dA dI vA6 vI6 i26 sv2 (by (first | lia | omega)) rfl (fun hm h7 n7 vs7 i27 sv7 kk7 => ?_) fun hm h7 tk7 e7 hx7 => ?_) hint rfl)
    · -- it was there
      obtain ⟨S7, v7⟩ := raw_chg (L := [p2]) Ok S6 (fun b o hb e => kk7 b o (nm1 hb) e) (mem1E ⟨isl_dat i26, ⟨_, i27⟩, b2, isl_notP Ok S6.g i26⟩)
      have Fl7 : FrOk Y h7 l := Fl6.keeps fun b o hb e => kk7 b o (frOk_ne Fl6 hb i26 rfl) e
      refine wpAny_execs_nil (wpAny_execs_nil (wpAny_execs_nil (hR h7 tk6 xv n5 r.reverse vs7 (ys'.erase x) n7 mv ms n3 (by rw [List.length_append]; exact Nat.lt_succ_self _) ⟨S7, Fl7, kstep _ h7 ku6 fun b o hl hP q1 q2 e => keep1 (kk7 b o q2 e), v7 _ _ vE6, v7 _ _ vA6, v7 _ _ vM6, kk7 _ _ hpp i16, svx, i27, sv7, kk7 _ _ h32 i36, sv3, by (first | lia | omega), ?_, ?_⟩)))
      · exact Nat.le_trans (List.length_erase_le) hz2
      · rw [List.reverse_reverse, ← hun]
        show _ = if x ∈ ys' then _ else _
        rw [if_pos hm]
    · -- it was not there
      refine caught_here (s := { s with heap := h7, toks := tk7 }) Ok B (Around.frames_deeper hfr) S6 Fl6 hx7 hgV fun h8 kp8 S8 => ?_
      have Fm6 := frok_me B Fl6 S6
      have d8 : ∀ {b : Addr} {vs : Array Value} {n : Nat}, IsL h6 b vs n → IsL h8 b vs n := fun i => kp8.dat Fm6 rfl (isl_notP Ok S6.g i) i
      have v8 : ∀ x v, VarAt env h6 x v → VarAt env h8 x v := fun x v hv => kp8.var Ok S6.g Fm6 hv
      have Fl8 : FrOk Y h8 l := Fl6.kps Ok S6.g kp8
      have i38 := d8 i36
      have ku8 := kstep _ h8 ku6 fun b o hl hP q1 q2 e => by
        obtain ⟨o', eo⟩ := hl
        obtain ⟨a1, a2⟩ := live_ne b o' eo
        obtain ⟨c1, c2⟩ := kp8 b o hP e
        refine ⟨fun hb => c1 fun q => ?_, c2⟩
        rw [frs_cons eF] at q
        rcases List.mem_cons.mp q with q | q
        · exact a1 q
        · exact hb q
      refine wpAny_execs_cons (wpAny_Expr_any (m_append (s := { s with heap := h8, toks := tk7 }) S8 dM dI (v8 _ _ vM6) (v8 _ _ vI6) i38 (by (first | lia | omega)) rfl fun h9 n9 i39 kk9 => ?_) hint rfl)
      obtain ⟨S9, v9⟩ := raw_chg (L := [p3]) Ok S8 (fun b o hb e => kk9 b o (nm1 hb) e) (mem1E ⟨isl_dat i38, ⟨_, i39⟩, b3, isl_notP Ok S8.g i38⟩)
      have Fl9 : FrOk Y h9 l := Fl8.keeps fun b o hb e => kk9 b o (frOk_ne Fl8 hb i38 rfl) e
      refine wpAny_execs_nil (wpAny_execs_nil (hR h9 tk7 xv n5 r.reverse yv ys' n2 (mv ++ [.str x t]) (ms ++ [x]) n9 (by rw [List.length_append]; exact Nat.lt_succ_self _) ⟨S9, Fl9, kstep _ h9 ku8 fun b o hl hP q1 q2 e => ?_, v9 _ _ (v8 _ _ vE6), v9 _ _ (v8 _ _ vA6), v9 _ _ (v8 _ _ vM6), kk9 _ _ (Ne.symm h31) (d8 i16), svx, kk9 _ _ (Ne.symm h32) (d8 i26), sv2, i39, sv3.app (SV.one x t), by rw [List.length_append, List.length_singleton]; (first | lia | omega), hz2, ?_⟩))
      · obtain ⟨o', eo⟩ := hl
        exact keep1 (kk9 b o (by rintro rfl; rw [f3s] at eo; cases eo) e)
      · rw [List.reverse_reverse, ← hun]
        show _ = if x ∈ ys' then _ else _
        rw [if_neg hm]
end
end
section
set_option tactic.hygienic false
theorem unord_eq : ∀ (zs ys ms : List Str), zs.Nodup → ys.Nodup → unord zs ys ms = (ms ++ zs.filter (fun z => !ys.elem z), ys.filter fun y => !zs.elem y)
  | [], ys, ms, _, _ => by
    have : ys.filter (fun y => !([] : List Str).elem y) = ys := List.filter_eq_self.mpr fun _ _ => rfl
    show (ms, ys) = _
    rw [this]
    simp
  | x :: r, ys, ms, hz, hy => by
    obtain ⟨hx, hr⟩ := List.nodup_cons.mp hz
    show (if x ∈ ys then unord r (ys.erase x) ms else unord r ys (ms ++ [x])) = _
    by_cases hm : x ∈ ys
    · rw [if_pos hm, unord_eq r (ys.erase x) ms hr (hy.erase x)]
      have e1 : (x :: r).filter (fun z => !ys.elem z) = r.filter fun z => !(ys.erase x).elem z := by
        rw [List.filter_cons, if_neg (by simpa using hm)]
        refine List.filter_congr fun z hz => ?_
        have hzx : z ≠ x := by rintro rfl; exact hx ‹_›
        have : z ∈ ys.erase x ↔ z ∈ ys := List.mem_erase_of_ne hzx
        rw [Bool.eq_iff_iff]
        simp [this]
      have e2 : (ys.erase x).filter (fun y => !r.elem y) = ys.filter fun y => !(x :: r).elem y := by
        rw [hy.erase_eq_filter, List.filter_filter]
        refine List.filter_congr fun y _ => ?_
        rw [Bool.eq_iff_iff]
        simp
        constructor
        · rintro ⟨a, b⟩; exact ⟨b, a⟩
        · rintro ⟨a, b⟩; exact ⟨b, a⟩
      rw [e1, e2]
    · rw [if_neg hm, unord_eq r ys (ms ++ [x]) hr hy]
      have e1 : (x :: r).filter (fun z => !ys.elem z) = x :: r.filter fun z => !ys.elem z := by
        rw [List.filter_cons, if_pos (by simpa using hm)]
      have e2 : ys.filter (fun y => !r.elem y) = ys.filter fun y => !(x :: r).elem y := by
        refine List.filter_congr fun y hy' => ?_
        have : y ≠ x := by rintro rfl; exact hm hy'
        rw [Bool.eq_iff_iff]
        simp [this]
      rw [e1, e2, List.append_assoc]
      rfl
theorem cNotInS {ss : List Str} {x : Str} {Q : Bool → Prop} (h : Q (!ss.elem x)) : cmpP .NotIn (.str x) (dSs ss) Q := by
  refine cNotIn ?_ fun t ht => ?_
  · rw [List.all_map]
    exact List.all_eq_true.mpr fun y _ => rfl
  · have e : D.str x ∈ ss.map D.str ↔ x ∈ ss := by
      constructor
      · intro h
        obtain ⟨y, hy, e⟩ := List.mem_map.mp h
        injection e with e
        exact e ▸ hy
      · exact fun h => List.mem_map.mpr ⟨x, h, rfl⟩
    rw [e] at ht
    have : t = !ss.elem x := by
      rw [Bool.eq_iff_iff, ht]
      simp
    rw [this]; exact h
/-- the first eight -/
noncomputable def eight (f : Nat → Str) : List Str := (List.range 8).map f
theorem eight_nodup {f : Nat → Str} (h : ∀ i j, i < 8 → j < 8 → f i = f j → i = j) : (eight f).Nodup := by
  unfold eight
  refine List.pairwise_map.mpr ?_
  refine List.Pairwise.imp_of_mem ?_ (List.nodup_range (n := 8))
  intro i j hi hj hne e
  exact hne (h i j (List.mem_range.mp hi) (List.mem_range.mp hj) e)
theorem slEight {Q : D → Prop} (f : Nat → Str) (h : Q (dSs (eight f))) : sliceP (.list ((List.range 16).map fun i => .str (f i))) none (some (.int 8)) none Q := by
  refine slList rfl rfl (by rw [List.length_map, List.length_range]; decide) ?_
  have : cutL none (some 8) ((List.range 16).map fun i => D.str (f i)) = (eight f).map .str := rfl
  rw [this]; exact h
theorem range_down : iterD (.range 7 (-1) (-1)) = some [.int 7, .int 6, .int 5, .int 4, .int 3, .int 2, .int 1, .int 0] := by kernel_rfl!
set_option maxHeartbeats 4000000 in
theorem b_halves3 (T : Tab) (P : Params) (f1 : T.F (Str.ofString "range") = none) (r : Nat → Str) (l : Nat → Nat) (hr : ∀ i j, i < 16 → j < 16 → r i = r j → i = j) (hl : ∀ i, i < 16 → l i < 16) (hli : ∀ i j, i < 16 → j < 16 → l i = l j → i = j) :
    wpSs T 30 (fdOf 210 P).scope ((bodyOf 210 P).drop 3) ⟨[(Str.ofString "told", .tuple [dSs (unord (eight fun i => r (l i)).reverse (eight r) []).1, dSs (unord (eight fun i => r (l i)).reverse (eight r) []).2]), (Str.ofString "second", dSs (unord (eight fun i => r (l i)).reverse (eight r) []).2), (Str.ofString "first", .list []),
      (Str.ofString "after", .list ((List.range 16).map fun i => .str (r (l i)))), (Str.ofString "rows", .list ((List.range 16).map fun i => .str (r i)))], none, true⟩ (fun fl _ => fl = .ret (.bool true)) := by
  have hrl : ∀ i j, i < 16 → j < 16 → r (l i) = r (l j) → i = j := fun i j hi hj e => hli i j hi hj (hr _ _ (hl i hi) (hl j hj) e)
  have nd1 : (eight r).Nodup := eight_nodup fun i j hi hj e => hr i j (by (first | lia | omega)) (by (first | lia | omega)) e
  have nd2 : (eight fun i => r (l i)).reverse.Nodup := List.pairwise_reverse.mpr ((eight_nodup fun i j hi hj e => hrl i j (by (first | lia | omega)) (by (first | lia | omega)) e).imp fun h => h.symm)
  rw [unord_eq _ _ _ nd2 nd1, List.nil_append]
  conv => arg 3; whnf
  conv => arg 4; whnf
  generalize hL : (eight fun i => r (l i)).reverse.filter (fun z => !(eight r).elem z) = L
  generalize hM : (eight r).filter (fun y => !(eight fun i => r (l i)).reverse.elem y) = M
  repeat walk_at "e"
  refine eBi3 (by walk_at "r") f1 (by walk_at "r") (by walk_at "r") ?_
  repeat walk_at "e"
  refine rRange3 ⟨sm_lit2 rfl, sm_lit2 rfl, sm_lit2 rfl, by decide⟩ ?_
  refine itIs range_down ⟨Nat.le_of_ble_eq_true rfl, ?_⟩
  refine comp1_filtI dN (fun a => !(eight r).elem (r (l a))) (fun a => .str (r (l a))) [7, 6, 5, 4, 3, 2, 1, 0] _ _ (fun a ha Q' hq => ?_) (fun a ha _ Q' hq => ?_) fun ρ' => ?_
  · have ha8 : a < 8 := by
      simp only [List.mem_cons, List.not_mem_nil, or_false] at ha
      (first | lia | omega)
    have e1 : ((List.range 16).map fun i => D.str (r (l i)))[a]? = some (.str (r (l a))) := by rw [List.getElem?_map, List.getElem?_range (by (first | lia | omega))]; rfl
    have e2 : a < 2 ^ 62 := by (first | lia | omega)
    repeat walk_at "e"
    refine gAt a rfl e2 e1 ?_
    repeat walk_at "e"
    refine slEight r ?_
    exact cNotInS hq
  · have ha8 : a < 8 := by
      simp only [List.mem_cons, List.not_mem_nil, or_false] at ha
      (first | lia | omega)
    have e1 : ((List.range 16).map fun i => D.str (r (l i)))[a]? = some (.str (r (l a))) := by rw [List.getElem?_map, List.getElem?_range (by (first | lia | omega))]; rfl
    have e2 : a < 2 ^ 62 := by (first | lia | omega)
    repeat walk_at "e"
    exact gAt a rfl e2 e1 hq
  · have eL : [] ++ (([7, 6, 5, 4, 3, 2, 1, 0] : List Nat).filter fun a => !(eight r).elem (r (l a))).map (fun a => D.str (r (l a))) = L.map .str := by
      rw [List.nil_append, ← hL]
      have e8 : (eight fun i => r (l i)).reverse = ([7, 6, 5, 4, 3, 2, 1, 0] : List Nat).map fun a => r (l a) := rfl
      rw [e8, List.filter_map, List.map_map]
      rfl
    rw [eL]
    clear eL ρ'
    repeat walk_at "e"
    refine slEight r ?_
    repeat walk_at "e"
    with_reducible refine itIs rfl ⟨Nat.le_of_ble_eq_true rfl, ?_⟩
    refine comp1_filtI D.str (fun y => !(eight fun i => r (l i)).elem y) D.str (eight r) _ _ (fun a ha Q' hq => ?_) (fun a ha _ Q' hq => ?_) fun ρ' => ?_
    · repeat walk_at "e"
      refine slEight (fun i => r (l i)) ?_
      exact cNotInS hq
    · repeat walk_at "e"
      exact hq
    · have eM : [] ++ ((eight r).filter fun y => !(eight fun i => r (l i)).elem y).map D.str = M.map .str := by
        rw [List.nil_append, ← hM]
        refine congrArg (List.map D.str) (List.filter_congr fun y _ => ?_)
        rw [Bool.eq_iff_iff]
        simp
      rw [eM]
      clear eM ρ' hL hM
      have smS : ∀ ss : List Str, ∀ x ∈ ss.map D.str, sm 6 x x = true := fun ss x hx => by
        obtain ⟨y, _, rfl⟩ := List.mem_map.mp hx
        rfl
      have sm1 : sm 8 (.tuple [dSs L, dSs M]) (.tuple [dSs L, dSs M]) = true := by
        show (smAll (sm 6) (L.map D.str) (L.map D.str) && (smAll (sm 6) (M.map D.str) (M.map D.str) && true)) = true
        rw [smAll_self (smS L), smAll_self (smS M)]; rfl
      have sm2 : sm 8 (dSs M) (dSs M) = true := smAll_self (f := sm 7) fun x hx => by
        obtain ⟨y, _, rfl⟩ := List.mem_map.mp hx
        rfl
      repeat walk_at "e"
      refine eAnd ?_
      repeat walk_at "e"
      refine cEqT (a := [dSs L, dSs M]) (b := [dSs L, dSs M]) sm1 fun t ht => ?_
      obtain rfl : t = true := ht.mpr rfl
      repeat walk_at "e"
      refine cEqL (a := []) (b := []) rfl fun t ht => ?_
      obtain rfl : t = true := ht.mpr rfl
      repeat walk_at "e"
      refine cEqL (a := M.map .str) (b := M.map .str) sm2 fun t ht => ?_
      obtain rfl : t = true := ht.mpr rfl
      repeat walk_at "e"
      rfl
end
section
set_option tactic.hygienic false
section
variable {Y : Sys} {T : Tab} {k : Nat} {A : Around} {E : Value → Shared → Prop} {s : Shared} {hid : Addr → Bool} {env : Env} {sc : Scope} {ρ : List (Str × D)} {l : List Env}

/-- the first items of a list, a new list -/
theorem slice8 (S : Raw Y sc env hid s.heap) {x : Str} {px pk ps pp : Pos} {kk : Nat} {a : Addr} {vs : List Value} {Q : Value → Shared → Prop} (hd : (x == ("__debug__" : Str)) = false) (hv : VarAt env s.heap x (.ref a)) (il : s.heap.IsList a vs.toArray) (hz : vs.length ≤ 100) (hz8 : 8 ≤ vs.length)
    (h : ∀ h' tk p, (∀ b o, s.heap.get? b = some o → h'.get? b = some o) → s.heap.get? p = none → IsL h' p (vs.take 8).toArray 0 → Q (.ref p) { s with heap := h', toks := tk }) :
    wpAny (model Y.prog Y.w) A (eval (.Subscript (.Name x px) (.Slice none (some (.Constant (.int 8) kk pk)) none ps) pp) env) Q E s := by
  refine Subscript_ (load_var S.V hd hv ?_)
  refine wpAny_Slice (wpAny_evalPart_none (wpAny_evalPart_some (wpAny_Constant_int (wpAny_evalPart_none ?_))))
  obtain ⟨ops, he⟩ := sub_ops (.Slice none (some (.Constant (.int 8) kk pk)) none ps) (.ref a) (.ref s.heap.objs.size)
  have k1 : ∀ b o, s.heap.get? b = some o → (s.heap.push { cls := .type "slice", data := .fields #[.none, .int 8 s.toks, .none] }).get? b = some o := fun b o e => Heap.get?_push_of_some _ e
  have il1 : Heap.IsList (s.heap.push { cls := .type "slice", data := .fields #[.none, .int 8 s.toks, .none] }) a vs.toArray := il.at fun o e => k1 a o e
  have hs : IsSl (s.heap.push { cls := .type "slice", data := .fields #[.none, .int 8 s.toks, .none] }) s.heap.objs.size .none (.int 8 s.toks) .none := Heap.get?_push_size _ rfl
  refine tail_any (s := { s with heap := s.heap.push { cls := .type "slice", data := .fields #[.none, .int 8 s.toks, .none] }, toks := _ }) il1.typeIs slot_list_getitem.lookup (wpAny_getItem_list_slice il1 hs.of .none (.int 8 _) .none (by simp) ?_ (by simp; exact Nat.le_trans hz (by decide))) he
  rw [pick_cut]
  have e8 : cutL none (some 8) vs = vs.take 8 := by
    show (vs.drop 0).take (clipAt vs.length ((8 : Nat) : Int) - 0) = _
    rw [clip_nn, Nat.min_eq_left hz8]; rfl
  rw [e8]
  have f2 : (s.heap.push { cls := .type "slice", data := .fields #[.none, .int 8 s.toks, .none] }).get? (s.heap.push { cls := .type "slice", data := .fields #[.none, .int 8 s.toks, .none] }).objs.size = none := get_size _
  refine h _ _ _ (fun b o e => Heap.get?_push_of_some _ (k1 b o e)) ?_ (Heap.get?_push_size _ rfl)
  cases q : s.heap.get? (s.heap.push { cls := .type "slice", data := .fields #[.none, .int 8 s.toks, .none] }).objs.size with
  | none => rfl
  | some o => rw [k1 _ o q] at f2; cases f2
end
end
section
set_option tactic.hygienic false
section
variable {Y : Sys} {T : Tab} {k : Nat} {A : Around} {E : Value → Shared → Prop} {s : Shared} {hid : Addr → Bool} {env : Env} {sc : Scope} {ρ : List (Str × D)} {l : List Env}

theorem raw_kpu (Ok : SysOk Y) {p1 p2 : Addr} {h h' : Heap} (S : Raw Y sc env hid h) (F : FrOk Y h l) (ku : KpU Y l p1 p2 h h') (g' : Y.G h') (d1 : ∃ o, h.get? p1 = some o ∧ isDat o = true) (d2 : ∃ o, h.get? p2 = some o ∧ isDat o = true) (l1 : ∃ o, h'.get? p1 = some o) (l2 : ∃ o, h'.get? p2 = some o) :
    Raw Y sc env hid h' ∧ (∀ x v, VarAt env h x v → VarAt env h' x v) ∧ ∀ b o, isDat o = true → b ≠ Y.P → b ≠ p1 → b ≠ p2 → h.get? b = some o → h'.get? b = some o := by
  have np : ∀ {b : Addr} {o : Obj}, h.get? b = some o → isDat o = false → b ≠ p1 ∧ b ≠ p2 := fun e hd => by
    constructor
    · rintro rfl
      obtain ⟨o', e', d'⟩ := d1
      rw [e] at e'; cases e'; rw [hd] at d'; cases d'
    · rintro rfl
      obtain ⟨o', e', d'⟩ := d2
      rw [e] at e'; cases e'; rw [hd] at d'; cases d'
  have nsK : ∀ {a : Addr} {m : Str → Option Value}, h.Ns a m → h'.Ns a m := fun {a m} n => by
    have hP := ns_notP Ok S.g n
    have hd := ns_isDat n
    obtain ⟨o, es, ep, e, d, r⟩ := n
    obtain ⟨q1, q2⟩ := np e (hd o e)
    obtain ⟨_, sl, hs⟩ := ku a o hP q1 q2 e
    exact ⟨_, es, ep, hs, d, r⟩
  have ceK : ∀ {a : Addr} {m : Option Value}, h.IsCell a m → h'.IsCell a m := fun {a m} n => by
    have hP := cell_notP Ok S.g n
    have hd := cell_isDat n
    obtain ⟨o, e, d⟩ := n
    obtain ⟨q1, q2⟩ := np e (hd o e)
    obtain ⟨_, sl, hs⟩ := ku a o hP q1 q2 e
    exact ⟨_, hs, d⟩
  refine ⟨⟨⟨S.V.kind, S.V.sce, S.V.glob, S.V.bui, S.V.baseL, S.V.cells, fun z c e => ?_, fun x d e => by cases e⟩, g', ⟨S.H.p, fun b hb => ?_, S.H.cst⟩, ?_, trivial⟩, fun x v hv => ?_, fun b o hd hP q1 q2 e => ?_⟩
  · obtain ⟨v, n⟩ := S.V.cellAt z c e
    exact ⟨v, ceK n⟩
  · obtain ⟨o, e⟩ := S.H.live b hb
    by_cases hP : b = Y.P
    · subst hP; obtain ⟨_, e⟩ := Ok.tab _ g'; exact ⟨_, e⟩
    · by_cases q1 : b = p1
      · subst q1; exact l1
      · by_cases q2 : b = p2
        · subst q2; exact l2
        · obtain ⟨_, sl, hs⟩ := ku b o hP q1 q2 e; exact ⟨_, hs⟩
  · obtain ⟨m, n⟩ := S.ns; exact ⟨m, nsK n⟩
  · rcases hv with ⟨q, m, n, hm⟩ | ⟨q, hc, c, e, n⟩
    · exact .inl ⟨q, m, nsK n, hm⟩
    · exact .inr ⟨q, hc, c, e, ceK n⟩
  · exact (ku b o hP q1 q2 e).1 fun hb => by
      have := F.isDat hb o e
      rw [hd] at this; cases this

theorem rep_strs {g : View} {v : Value} {ss : List Str} (r : Rep g v (dSs ss)) : ∃ a o vs n, v = .ref a ∧ g a = some o ∧ o.cls = .type "list" ∧ o.data = .seq vs.toArray n ∧ SV vs ss := by
  cases r with
  | list h c e r => exact ⟨_, _, _, _, rfl, h, c, e, RepL.imm (by rw [List.all_map]; exact List.all_eq_true.mpr fun _ _ => rfl) r⟩
theorem SV.take {vs : List Value} {ss : List Str} (n : Nat) (h : SV vs ss) : SV (vs.take n) (ss.take n) := by
  unfold SV at *
  rw [List.map_take]
  exact RepL.take n h

set_option tactic.hygienic true in
theorem halves_ok (Ok : SysOk Y) (TO : TabOk Y k T) (P : Params) (N : FnAt Y 210 (fdOf 210 P) (bodyOf 210 P) [Str.ofString "after", Str.ofString "rows"]) (UO : UnordOk Y k 110) (mgU : Y.mg (Str.ofString "unorderable_list_difference") = some (.ref 110))
    (NU : ∀ h, Y.G h → ∃ o fd, h.get? 110 = some o ∧ o.data = .func fd) (f1 : T.F (Str.ofString "range") = none) : FnX Y (k + 1) 210 sHalves := by
  rintro A s hid l args ds Q E R hfr Fl g H rep ⟨r, lf, hr, hl, hli, rfl, hq⟩
  cases rep with
  | cons ra rep =>
  cases rep with
  | cons rb rep =>
  cases rep
  rename_i va vb
  refine fn_raw Ok N R g H rfl fun env s₁ sm kp fL fC Fr eF S0 hv => ?_
  have B := bfr_of Ok Fl g Fr eF fL fC
  obtain ⟨h1, tk1, rfl⟩ := sm
  have hvA := (hv (Str.ofString "after") va (.head _)).2
  have hvR := (hv (Str.ofString "rows") vb (.tail _ (.head _))).2
  clear hv
  have eA : ((List.range 16).map fun i => D.str (r (lf i))) = ((List.range 16).map fun i => r (lf i)).map .str := by rw [List.map_map]; rfl
  have eR : ((List.range 16).map fun i => D.str (r i)) = ((List.range 16).map r).map .str := by rw [List.map_map]; rfl
  rw [eA] at ra
  rw [eR] at rb
  obtain ⟨a1, o1, ws, m1, rfl, g1, c1, d1, svA⟩ := rep_strs ra
  obtain ⟨a2, o2, us, m2, rfl, g2, c2, d2, svR⟩ := rep_strs rb
  obtain ⟨g1, hh1⟩ := vis_get g1
  obtain ⟨g2, hh2⟩ := vis_get g2
  have lA : ws.length = 16 := by rw [svA.len]; simp
  have lR : us.length = 16 := by rw [svR.len]; simp
  have P1 : a1 ≠ Y.P := by rintro rfl; rw [H.p] at hh1; cases hh1
  have P2 : a2 ≠ Y.P := by rintro rfl; rw [H.p] at hh2; cases hh2
  have D1 : isDat o1 = true := by simp [isDat, d1]
  have D2 : isDat o2 = true := by simp [isDat, d2]
  have st1 : storable (fdOf 210 P).scope (Str.ofString "first") = true := by with_unfolding_all rfl
  have st2 : storable (fdOf 210 P).scope (Str.ofString "second") = true := by with_unfolding_all rfl
  have st3 : storable (fdOf 210 P).scope (Str.ofString "told") = true := by with_unfolding_all rfl
  have hgU : globalKind (fdOf 210 P).scope (Str.ofString "unorderable_list_difference") = true := by with_unfolding_all rfl
  have dA : (Str.ofString "after" == ("__debug__" : Str)) = false := by kernel_rfl!
  have dR : (Str.ofString "rows" == ("__debug__" : Str)) = false := by kernel_rfl!
  have dF : (Str.ofString "first" == ("__debug__" : Str)) = false := by kernel_rfl!
  have dS : (Str.ofString "second" == ("__debug__" : Str)) = false := by kernel_rfl!
  have dT : (Str.ofString "told" == ("__debug__" : Str)) = false := by kernel_rfl!
  have dU : (Str.ofString "unorderable_list_difference" == ("__debug__" : Str)) = false := by kernel_rfl!
  have nAF : Str.ofString "after" ≠ Str.ofString "first" := ne_of_beq_false (by kernel_rfl!)
  have nRF : Str.ofString "rows" ≠ Str.ofString "first" := ne_of_beq_false (by kernel_rfl!)
  have nAS : Str.ofString "after" ≠ Str.ofString "second" := ne_of_beq_false (by kernel_rfl!)
  have nRS : Str.ofString "rows" ≠ Str.ofString "second" := ne_of_beq_false (by kernel_rfl!)
  have nFS : Str.ofString "first" ≠ Str.ofString "second" := ne_of_beq_false (by kernel_rfl!)
  have nAT : Str.ofString "after" ≠ Str.ofString "told" := ne_of_beq_false (by kernel_rfl!)
  have nRT : Str.ofString "rows" ≠ Str.ofString "told" := ne_of_beq_false (by kernel_rfl!)
  have nFT : Str.ofString "first" ≠ Str.ofString "told" := ne_of_beq_false (by kernel_rfl!)
  have nST : Str.ofString "second" ≠ Str.ofString "told" := ne_of_beq_false (by kernel_rfl!)
  have live_ne : ∀ b o, s.heap.get? b = some o → b ≠ env.locals ∧ (∀ z, env.cells.lookup z ≠ some b) := fun b o e => by
    have q1 : b ≠ env.locals := by rintro rfl; rw [fL] at e; cases e
    have q2 : ∀ z, env.cells.lookup z ≠ some b := fun z hz => by rw [fC z b hz] at e; cases e
    exact ⟨q1, q2⟩
  have Fl1 : FrOk Y h1 l := Fl.keeps fun b o _ e => kp b o e
  have e3 := b_halves3 T P f1 r lf hr hl hli
  generalize hrest : (bodyOf 210 P).drop 3 = rest at e3
  conv in (bodyOf 210 P) => whnf
  have hrest' : rest = [_, _, _] := hrest.symm.trans (by with_unfolding_all rfl)
  rw [hrest'] at e3
  clear hrest hrest' rest
  -- first = after[:8]
  refine wpAny_execs_cons (wpAny_Assign_Name (slice8 (s := { s with heap := h1, toks := tk1 }) S0 dA hvA ⟨o1, kp _ _ g1, c1, m1, d1⟩ (by (first | lia | omega)) (by (first | lia | omega)) fun h2 tk2 p1 k2 f2 i2 => ?_) rfl)
  change ∀ b o, h1.get? b = some o → h2.get? b = some o at k2
  have S2 : Raw Y (fdOf 210 P).scope env hid h2 := S0.up Ok (Kp.of k2) (Ok.mono _ _ S0.g k2)
  have b1 : Y.base.get? p1 = none := Ok.fresh _ _ S0.g f2
  have hp1 : hid p1 = false := S0.H.fresh f2
  show wpAny _ _ (storeName env (Str.ofString "first") (.ref p1)) _ _ { s with heap := h2, toks := tk2 }
  refine raw_store (s := { s with heap := h2, toks := tk2 }) Ok Fr S2 st1 fun h3 tk3 S3 kf3 kd3 vF3 vo3 lv3 => ?_
  change ∀ b o, isDat o = true → h2.get? b = some o → h3.get? b = some o at kd3
  have Fl3 : FrOk Y h3 l := frok_kpf B (Fl1.keeps fun b o _ e => k2 b o e) S2 kf3
  have vA3 := vo3 _ _ nAF (hvA.up Ok S0.g (Kp.of k2))
  have vR3 := vo3 _ _ nRF (hvR.up Ok S0.g (Kp.of k2))
  have g13 : h3.get? a1 = some o1 := kd3 _ _ D1 (k2 _ _ (kp _ _ g1))
  have g23 : h3.get? a2 = some o2 := kd3 _ _ D2 (k2 _ _ (kp _ _ g2))
  have i3 : IsL h3 p1 (ws.take 8).toArray 0 := seq_up i2 kd3
  -- second = rows[:8]
  refine wpAny_execs_cons (wpAny_Assign_Name (slice8 (s := { s with heap := h3, toks := tk3 }) S3 dR vR3 ⟨o2, g23, c2, m2, d2⟩ (by (first | lia | omega)) (by (first | lia | omega)) fun h4 tk4 p2 k4 f4 i4 => ?_) rfl)
  change ∀ b o, h3.get? b = some o → h4.get? b = some o at k4
  have S4 : Raw Y (fdOf 210 P).scope env hid h4 := S3.up Ok (Kp.of k4) (Ok.mono _ _ S3.g k4)
  have b2 : Y.base.get? p2 = none := Ok.fresh _ _ S3.g f4
  have hp2 : hid p2 = false := S3.H.fresh f4
  have hpp : p1 ≠ p2 := by
    rintro rfl
    have q : h3.get? p1 = _ := i3
    change h3.get? p1 = none at f4
    rw [f4] at q; cases q
  show wpAny _ _ (storeName env (Str.ofString "second") (.ref p2)) _ _ { s with heap := h4, toks := tk4 }
  refine raw_store (s := { s with heap := h4, toks := tk4 }) Ok Fr S4 st2 fun h5 tk5 S5 kf5 kd5 vS5 vo5 lv5 => ?_
  change ∀ b o, isDat o = true → h4.get? b = some o → h5.get? b = some o at kd5
  have Fl5 : FrOk Y h5 l := frok_kpf B (Fl3.keeps fun b o _ e => k4 b o e) S4 kf5
  have vA5 := vo5 _ _ nAS (vA3.up Ok S3.g (Kp.of k4))
  have vR5 := vo5 _ _ nRS (vR3.up Ok S3.g (Kp.of k4))
  have vF5 := vo5 _ _ nFS (vF3.up Ok S3.g (Kp.of k4))
  have g15 : h5.get? a1 = some o1 := kd5 _ _ D1 (k4 _ _ g13)
  have g25 : h5.get? a2 = some o2 := kd5 _ _ D2 (k4 _ _ g23)
  have i15 : IsL h5 p1 (ws.take 8).toArray 0 := seq_up (k4 _ _ i3) kd5
  have i25 : IsL h5 p2 (us.take 8).toArray 0 := seq_up i4 kd5
  have Fm5 := frok_me B Fl5 S5
  -- what was there stands so far
  have f2s : s.heap.get? p1 = none := by
    cases q : s.heap.get? p1 with
    | none => rfl
    | some o => have := kp p1 o q; rw [f2] at this; cases this
  have all3 : ∀ b o, b ≠ Y.P → s.heap.get? b = some o → h3.get? b = some o := fun b o hP e => by
    obtain ⟨q1, q2⟩ := live_ne b o e
    exact kf3 b o hP ⟨q1, q2, by simp⟩ (k2 b o (kp b o e))
  have f4s : s.heap.get? p2 = none := by
    cases q : s.heap.get? p2 with
    | none => rfl
    | some o =>
      change h3.get? p2 = none at f4
      by_cases hP : p2 = Y.P
      · subst hP
        obtain ⟨_, e⟩ := Ok.tab _ S3.g
        change h3.get? Y.P = _ at e
        rw [f4] at e; cases e
      · have := all3 p2 o hP q; rw [f4] at this; cases this
  have all5 : ∀ b o, b ≠ Y.P → s.heap.get? b = some o → h5.get? b = some o := fun b o hP e => by
    obtain ⟨q1, q2⟩ := live_ne b o e
    exact kf5 b o hP ⟨q1, q2, by simp⟩ (k4 b o (all3 b o hP e))
  have sv1 : SV (ws.take 8) (eight fun i => r (lf i)) := by
    have e : (eight fun i => r (lf i)) = ((List.range 16).map fun i => r (lf i)).take 8 := rfl
    rw [e]; exact svA.take 8
  have sv2 : SV (us.take 8) (eight r) := by
    have e : eight r = ((List.range 16).map r).take 8 := rfl
    rw [e]; exact svR.take 8
  -- told = unorderable_list_difference(first, second)
  refine wpAny_execs_cons (wpAny_Assign_Name (wpAny_Call_NameR (load_glob (s := { s with heap := h5, toks := tk5 }) Ok S5.V S5.g hgU dU mgU ?_)) rfl)
  refine callWith_of (P := Y.G) rfl (fun h gh => ?_) ?_
  · obtain ⟨o, fd, q1, q2⟩ := NU h gh
    refine ⟨.frame, .inl rfl, (Looks.ld (part := none) q1).andThen ?_⟩
    rw [q2]
    exact .now
  refine evalArgs_plain (spliced_cons (load_var (s := { s with heap := h5, toks := tk5 }) S5.V dF vF5 (spliced_cons (load_var (s := { s with heap := h5, toks := tk5 }) S5.V dS vS5 (spliced_nil ⟨S5.g, ?_⟩)))))
  refine UO (A.deeper env) { s with heap := h5, toks := tk5 } hid (env :: l) p1 p2 0 0 _ _ _ _ _ _ (R.deeper env) (Around.frames_deeper hfr) Fm5 S5.g S5.H hpp hp2 i15 i25 sv1 sv2 (by simp [eight]) (by simp [eight]) b1 b2 fun h6 tk6 v n1 n2 yv' ku g6 i16 i26 svY rv => ?_
  obtain ⟨S6, v6, d6⟩ := raw_kpu Ok S5 Fm5 ku g6 ⟨_, i15, rfl⟩ ⟨_, i25, rfl⟩ ⟨_, i16⟩ ⟨_, i26⟩
  show wpAny _ _ (storeName env (Str.ofString "told") v) _ _ { s with heap := h6, toks := tk6 }
  refine raw_store (s := { s with heap := h6, toks := tk6 }) Ok Fr S6 st3 fun h7 tk7 S7 kf7 kd7 vT7 vo7 lv7 => ?_
  change ∀ b o, isDat o = true → h6.get? b = some o → h7.get? b = some o at kd7
  have n1p : a1 ≠ p1 := by rintro rfl; rw [f2s] at g1; cases g1
  have n1q : a1 ≠ p2 := by rintro rfl; rw [f4s] at g1; cases g1
  have n2p : a2 ≠ p1 := by rintro rfl; rw [f2s] at g2; cases g2
  have n2q : a2 ≠ p2 := by rintro rfl; rw [f4s] at g2; cases g2
  have g17 : h7.get? a1 = some o1 := kd7 _ _ D1 (d6 _ _ D1 P1 n1p n1q g15)
  have g27 : h7.get? a2 = some o2 := kd7 _ _ D2 (d6 _ _ D2 P2 n2p n2q g25)
  have i17 := seq_up i16 kd7
  have i27 := seq_up i26 kd7
  have rv7 : Rep (vis h7 hid) v _ := rv.mono fun b o hd e => by obtain ⟨q1, q2⟩ := vis_get e; exact vis_of (kd7 b o hd q1) q2
  rw [eA, eR] at e3
  refine wpAny_mono ((wpS_sound Ok TO 30).2 30 (Nat.le_refl _) (fdOf 210 P).scope _ _ _ (A.deeper env) { s with heap := h7, toks := tk7 } env hid none _ e3 Fr (S7.withVars (lkE ⟨dT, v, vT7, rv7⟩ (lkE ⟨dS, _, vo7 _ _ nST (v6 _ _ vS5), .list (vis_of i27 hp2) rfl rfl svY.rep⟩ (lkE ⟨dF, _, vo7 _ _ nFT (v6 _ _ vF5), .list (vs := []) (vis_of i17 hp1) rfl rfl .nil⟩ (lkE ⟨dA, _, vo7 _ _ nAT (v6 _ _ vA5), .list (vis_of g17 hh1) c1 d1 svA.rep⟩ (lkE ⟨dR, _, vo7 _ _ nRT (v6 _ _ vR5), .list (vis_of g27 hh2) c2 d2 svR.rep⟩ lkN)))))) (R.deeper env)) (fun fl s' q => ?_) fun _ _ x => x
  obtain ⟨h', tk', σ', O', f, rfl, kx, lv, S', c, fr, rfl⟩ := q
  cases fl <;> first | exact fr.elim | skip
  refine ⟨h', tk', rfl, fun b o hP e => ?_, S'.g, _, fr, hq⟩
  obtain ⟨q1, q2⟩ := live_ne b o e
  have hb1 : b ≠ p1 := by rintro rfl; rw [f2s] at e; cases e
  have hb2 : b ≠ p2 := by rintro rfl; rw [f4s] at e; cases e
  obtain ⟨u1, sl, u2⟩ := ku b o hP hb1 hb2 (all5 b o hP e)
  have fin : ∀ o', h6.get? b = some o' → h'.get? b = some o' := fun o' e' => kx b o' hP ⟨q1, q2, by simp⟩ (kf7 b o' hP ⟨q1, q2, by simp⟩ e')
  refine ⟨fun hbl => fin o (u1 fun hm => ?_), sl, fin _ u2⟩
  rw [frs_cons eF] at hm
  rcases List.mem_cons.mp hm with hm | hm
  · exact q1 hm
  · exact hbl hm
end
end
section
set_option tactic.hygienic false
section
variable {T : Tab} {X : Str → Option Spec} {n : Nat} {sc : Scope} {r : List Stmt} {Q : Fl → Ab → Prop} {σ : Ab} {ρ : List (Str × D)}
theorem atL {l : List Stmt} (h : wpB T X n sc l σ Q) : wpB T X n sc l σ Q := h
theorem sbNil (h : Q .next σ) : wpB T X n sc [] σ Q := h
theorem sbGen {st : Stmt} (h : wpS T n sc st σ (thenS (fun σ' => wpB T X n sc r σ' Q) Q)) : wpB T X n sc (st :: r) σ Q := StB.plain _ h
theorem sbN {y f : Str} {py pf pc pos : Pos} {args : List Expr} (hX : X f = none) (h : wpS T n sc (.Assign [.Name y py] (.Call (.Name f pf) args [] pc) pos) σ (thenS (fun σ' => wpB T X n sc r σ' Q) Q)) : wpB T X n sc (.Assign [.Name y py] (.Call (.Name f pf) args [] pc) pos :: r) σ Q := StB.plain _ h
theorem ne_of_empty {α : Type} {l : List α} (h : (!l.isEmpty) = true) : l ≠ [] := by rintro rfl; exact absurd h Bool.false_ne_true
theorem sbX {y f : Str} {py pf pc pos : Pos} {args : List Expr} {S : Spec} (hX : X f = some S) (hs : (storable sc y && globalKind sc f && !(f == ("__debug__" : Str)) && args.all okArg && !args.isEmpty) = true)
    (h : wpEs (wpE T n sc ρ) args fun ds => S ds fun d => ∀ ρ', setV y d ρ = ρ' → wpB T X n sc r ⟨ρ', none, true⟩ Q) : wpB T X n sc (.Assign [.Name y py] (.Call (.Name f pf) args [] pc) pos :: r) ⟨ρ, none, true⟩ Q := by
  rw [Bool.and_eq_true, Bool.and_eq_true, Bool.and_eq_true, Bool.and_eq_true] at hs
  obtain ⟨⟨⟨⟨h1, h2⟩, h3⟩, h4⟩, h5⟩ := hs
  exact StB.asg _ _ _ _ _ _ _ S hX h1 h2 (by simpa using h3) h4 (ne_of_empty h5) rfl (cast (congrArg (wpEs (wpE T n sc ρ) args) (funext fun ds => congrArg (S ds) (funext fun d => propext ⟨fun x => x _ rfl, fun x _ e => e ▸ x⟩))) h)
theorem sbRetX {f : Str} {pf pc pos : Pos} {args : List Expr} {S : Spec} (hX : X f = some S) (hs : (globalKind sc f && !(f == ("__debug__" : Str)) && args.all okArg && !args.isEmpty) = true)
    (h : wpEs (wpE T n sc ρ) args fun ds => S ds fun d => Q (.ret d) ⟨ρ, none, true⟩) : wpB T X n sc (.Return (some (.Call (.Name f pf) args [] pc)) pos :: r) ⟨ρ, none, true⟩ Q := by
  rw [Bool.and_eq_true, Bool.and_eq_true, Bool.and_eq_true] at hs
  obtain ⟨⟨⟨h2, h3⟩, h4⟩, h5⟩ := hs
  exact StB.ret1 _ _ _ _ _ S hX h2 (by simpa using h3) h4 (ne_of_empty h5) rfl h
theorem sbRet2 {f g : Str} {pf pc pos pg pc' pl : Pos} {args args' : List Expr} {S : Spec} (hX : X f = some S) (hs : (globalKind sc f && !(f == ("__debug__" : Str)) && args.all okArg && !args.isEmpty && args'.all okArg && !args'.isEmpty && g == f) = true)
    (h : wpEs (wpE T n sc ρ) args fun ds => S ds fun d => wpEs (wpE T n sc ρ) args' fun ds' => S ds' fun d' => Q (.ret (.list [d, d'])) ⟨ρ, none, true⟩) :
    wpB T X n sc (.Return (some (.List [.Call (.Name f pf) args [] pc, .Call (.Name g pg) args' [] pc'] pl)) pos :: r) ⟨ρ, none, true⟩ Q := by
  rw [Bool.and_eq_true, Bool.and_eq_true, Bool.and_eq_true, Bool.and_eq_true, Bool.and_eq_true, Bool.and_eq_true] at hs
  obtain ⟨⟨⟨⟨⟨⟨h2, h3⟩, h4⟩, h5⟩, h6⟩, h7⟩, h8⟩ := hs
  obtain rfl := eq_of_beq h8
  exact StB.ret2 _ _ _ _ _ _ _ _ _ S hX h2 (by simpa using h3) h4 (ne_of_empty h5) h6 (ne_of_empty h7) rfl h
end
noncomputable def BodyB (T : Tab) (X : Str → Option Spec) (n : Nat) (a : Addr) (P : Params) (names : List Str) (S : Spec) : Prop :=
  ∀ ds Q, S ds Q → ds.length = names.length ∧ wpB T X n (fdOf a P).scope (bodyOf a P) ⟨names.zip ds, none, true⟩ fun fl _ => match fl with | .ret d => Q d | _ => False

local macro_rules | `(tactic| walk_at "l") => `(tactic| with_reducible first
  | refine sbX (by assumption) (by walk_at "r") ?_ | refine sbRetX (by assumption) (by walk_at "r") ?_ | refine sbRet2 (by assumption) (by walk_at "r") ?_ | refine sbGen ?_ | refine sbNil ?_)
local macro_rules | `(tactic| walk_at "e") => `(tactic| with_reducible (refine atL ?_; walk_at "l"))

structure TabG (T : Tab) : Prop where
  cells : T.F (Str.ofString "_law_cells") = some sCells
  listed : T.F (Str.ofString "_law_listed") = some sListed
  gate : T.F (Str.ofString "_law_gate") = some sGate
  state : T.F (Str.ofString "_law_state") = some sState
  run : T.F (Str.ofString "_law_run") = some sRun
  marks : T.F (Str.ofString "_law_marks") = some sMarks
  rings : T.F (Str.ofString "_law_rings") = some sRings
  toldIs : T.F (Str.ofString "_law_tape_is_told") = some sToldIs
  marksDue : T.F (Str.ofString "_law_marks_due") = some sMarksDue
  rowDue : T.F (Str.ofString "_law_row_due") = some sRowDue
  range : T.F (Str.ofString "range") = none
  len : T.F (Str.ofString "len") = none
  list : T.F (Str.ofString "list") = none
  isi : T.F (Str.ofString "isinstance") = none
set_option maxHeartbeats 8000000 in
theorem bB_law (T : Tab) (X : Str → Option Spec) (P : Params) (F : TabG T) (x1 : X (Str.ofString "_law_taped") = some sTaped) (x2 : X (Str.ofString "_law_halves_are_told") = some sHalves) (x3 : X (Str.ofString "_law_cells") = none) (x4 : X (Str.ofString "_law_marks") = none) (x5 : X (Str.ofString "len") = none) : BodyB T X 60 215 P [Str.ofString "script"] sLaw := by
  rintro ds Q ⟨ns, hns, rfl, h⟩
  obtain ⟨f1, f2, f3, f5, f6, f7, f8, f9, f10, f11, f13, f14, f15, f16⟩ := F
  refine ⟨rfl, ?_⟩
  dsimp only [List.zip, List.zipWith]
  conv => arg 4; whnf
  conv => arg 5; whnf
  repeat walk_at "e"
  refine ⟨ns, hns, rfl, fun cs hcs => ?_⟩
  obtain ⟨c0, c1, c2, c3, c4, c5, c6, c7, rfl⟩ : ∃ c0 c1 c2 c3 c4 c5 c6 c7, cs = [c0, c1, c2, c3, c4, c5, c6, c7] := by
    match cs, hcs with
    | [c0, c1, c2, c3, c4, c5, c6, c7], _ => exact ⟨c0, c1, c2, c3, c4, c5, c6, c7, rfl⟩
  repeat walk_at "e"
  obtain ⟨m, hm⟩ : ∃ m : Nat, Int.fmod c0 4294967296 = m := ⟨(Int.fmod c0 4294967296).toNat, by have := Int.fmod_nonneg_of_pos c0 (b := 4294967296) (by decide); (first | lia | omega)⟩
  obtain ⟨o, ho, hoe⟩ : ∃ o : Nat, o < 3 ∧ Int.fmod c1 3 = o := ⟨(Int.fmod c1 3).toNat, by have := Int.fmod_lt_of_pos c1 (b := 3) (by decide); (first | lia | omega), by have := Int.fmod_nonneg_of_pos c1 (b := 3) (by decide); (first | lia | omega)⟩
  rw [hm, hoe]
  clear hm hoe
  clear hns hcs
  with_reducible refine itIs range16 ⟨by rw [List.length_map, List.length_range]; decide, ?_⟩
  refine comp1_mapI dN (fun st => .str (rowS m o st)) (List.range 16) _ _ (fun st hst Q' hq => ?_) fun ρ' => ?_
  · have hst := List.mem_range.mp hst
    repeat walk_at "e"
    exact ⟨m, o, st, ho, hst, rfl, hq⟩
  clear ρ'
  rw [List.nil_append]
  repeat walk_at "e"
  refine slList (lo' := some 2) (hi' := none) rfl rfl (Nat.le_of_ble_eq_true rfl) ?_
  have e1 : cutL (some 2) none (List.map D.int [c0, c1, c2, c3, c4, c5, c6, c7]) = [.int c2, .int c3, .int c4, .int c5, .int c6, .int c7] := rfl
  rw [e1]
  clear e1
  refine itIs rfl ⟨Nat.le_of_ble_eq_true rfl, ?_⟩
  refine comp1_dem (fun v => ∃ g ∈ allG, v = dG g) _ _ _ (fun d hd Q' hq => ?_) fun ρ' vs hvl hvs => ?_
  · obtain ⟨c, rfl⟩ : ∃ c, d = .int c := by
      simp only [List.mem_cons, List.not_mem_nil, or_false] at hd
      rcases hd with rfl | rfl | rfl | rfl | rfl | rfl <;> exact ⟨_, rfl⟩
    clear hd
    repeat walk_at "e"
    refine ⟨c, rfl, fun t w0 w1 w2 ht h0 h1 h2 => hq _ ?_⟩
    obtain ⟨g, hg, e⟩ := gateI_N t w0 w1 w2 ht h0 h1 h2
    refine ⟨g, hg, ?_⟩
    rw [e, List.map_map]
    rfl
  clear ρ'
  rw [List.nil_append]
  obtain ⟨gs, rfl, hgs⟩ := dem_gates vs hvs
  have hgl : gs.length = 6 := by rw [List.length_map] at hvl; exact hvl
  clear hvl hvs
  have hgi : ∀ g ∈ gs, GateIn g := fun g hg => allG_in g (hgs g hg)
  have hgir : ∀ g ∈ gs.reverse, GateIn g := fun g hg => hgi g (List.mem_reverse.mp hg)
  have hgsr : ∀ g ∈ gs.reverse, g ∈ allG := fun g hg => hgs g (List.mem_reverse.mp hg)
  have hglr : gs.reverse.length = 6 := by rw [List.length_reverse, hgl]
  repeat walk_at "e"
  refine ⟨gs, hgl, hgi, rfl, ?_⟩
  repeat walk_at "e"
  refine slRev (by rw [List.length_map, hgl]; decide) ?_
  rw [← List.map_reverse]
  repeat walk_at "e"
  refine ⟨gs.reverse, hglr, hgir, rfl, ?_⟩
  repeat walk_at "e"
  with_reducible refine itIs rfl ⟨by rw [List.length_map, List.length_range]; decide, ?_⟩
  refine comp1_mapI (fun st => D.str (rowS m o st)) (fun st => dN (runN gs st)) (List.range 16) _ _ (fun st hst Q' hq => ?_) fun ρ' => ?_
  · have hst := List.mem_range.mp hst
    repeat walk_at "e"
    refine ⟨m, o, st, ho, hst, rfl, ?_⟩
    repeat walk_at "e"
    exact ⟨gs, st, hgi, hst, rfl, hq⟩
  rw [List.nil_append]
  clear ρ'
  have hlt : ∀ i, i < 16 → runN gs i < 16 := fun i hi => run_lt hgs hi
  have hback : ∀ i, i < 16 → runN gs.reverse (runN gs i) = i := fun i hi => run_back hgs hi
  repeat walk_at "e"
  with_reducible refine itIs rfl ⟨by rw [List.length_map, List.length_range]; decide, ?_⟩
  refine comp1_mapI (fun st => dN (runN gs st)) dN (List.range 16) _ _ (fun st hst Q' hq => ?_) fun ρ' => ?_
  · have hst := List.mem_range.mp hst
    repeat walk_at "e"
    exact ⟨gs.reverse, runN gs st, hgir, hlt st hst, rfl, by rw [hback st hst]; exact hq⟩
  rw [List.nil_append]
  clear ρ'
  repeat walk_at "e"
  with_reducible refine rListR range16 (by rw [List.length_map, List.length_range]; decide) ?_
  refine cNeL (by rfl) fun t ht => ?_
  obtain rfl : t = false := by
    cases t with
    | false => rfl
    | true => exact absurd rfl (ht.mp rfl)
  clear ht
  repeat walk_at "e"
  with_reducible refine itIs rfl ⟨by rw [List.length_map, List.length_range]; decide, ?_⟩
  refine comp1_mapI (fun st => dN (runN gs st)) (fun st => D.str (rowS m o (runN gs st))) (List.range 16) _ _ (fun st hst Q' hq => ?_) fun ρ' => ?_
  · have hst := List.mem_range.mp hst
    have h16 := hlt st hst
    have e1 : ((List.range 16).map (fun st => D.str (rowS m o st)))[runN gs st]? = some (.str (rowS m o (runN gs st))) := by rw [List.getElem?_map, List.getElem?_range h16]; rfl
    have e2 : runN gs st < 2 ^ 62 := by (first | lia | omega)
    repeat walk_at "e"
    exact gAt _ rfl e2 e1 hq
  rw [List.nil_append]
  clear ρ'
  repeat walk_at "e"
  refine ⟨rowS m o, rfl, ?_⟩
  repeat walk_at "e"
  refine ⟨fun st => rowS m o (runN gs st), rfl, ?_⟩
  have eA : (prs fun i j => D.int (cmpI (rowS m o i) (rowS m o j))) = (marksN id).map .int := by
    unfold marksN
    rw [prs_map]
    exact prs_congr fun i j hi hj => by rw [cmp_key m ho hi (by (first | lia | omega)) (by (first | lia | omega))]; rfl
  have hinj : ∀ i j, i < 16 → j < 16 → runN gs i = runN gs j → i = j := fun i j hi hj e => by rw [← hback i hi, ← hback j hj, e]
  have hinj2 := hinj
  have eB : (prs fun i j => D.int (cmpI (rowS m o (runN gs i)) (rowS m o (runN gs j)))) = (marksN (runN gs)).map .int := by
    unfold marksN
    rw [prs_map]
    exact prs_congr fun i j hi hj => by rw [cmp_key m ho (hlt i hi) (hlt j (by (first | lia | omega))) (fun e => by have := hinj i j hi (by (first | lia | omega)) e; (first | lia | omega))]
  rw [eA, eB]
  repeat walk_at "e"
  with_reducible refine itIs range120 ⟨by rw [List.length_map, List.length_range]; decide, ?_⟩
  have hmA : (marksN id).length = 120 := prs_len _
  have hmB : (marksN (runN gs)).length = 120 := prs_len _
  refine comp1_filtI dN (fun a => !((marksN id).getD a 0 == (marksN (runN gs)).getD a 0)) dN (List.range 120) _ _ (fun a ha Q' hq => ?_) (fun a ha _ Q' hq => ?_) fun ρ' => ?_
  · have ha := List.mem_range.mp ha
    have e1 : ((marksN id).map D.int)[a]? = some (.int ((marksN id).getD a 0)) := by
      rw [List.getElem?_map, List.getD_eq_getElem?_getD, List.getElem?_eq_getElem (by rw [hmA]; exact ha)]; rfl
    have e2 : ((marksN (runN gs)).map D.int)[a]? = some (.int ((marksN (runN gs)).getD a 0)) := by
      rw [List.getElem?_map, List.getD_eq_getElem?_getD, List.getElem?_eq_getElem (by rw [hmB]; exact ha)]; rfl
    have e3 : a < 2 ^ 62 := by (first | lia | omega)
    repeat walk_at "e"
    refine gAt a rfl e3 e1 ?_
    repeat walk_at "e"
    refine gAt a rfl e3 e2 ?_
    repeat walk_at "e"
    exact hq
  · repeat walk_at "e"
    exact hq
  rw [List.nil_append]
  clear ρ'
  have hC1 : (List.filter (fun a => !((marksN id).getD a 0 == (marksN (runN gs)).getD a 0)) (List.range 120)).length ≤ 1000 := by
    refine Nat.le_trans (List.length_filter_le _ _) ?_
    rw [List.length_range]; decide
  refine rLenN _ (List.length_map ..) hC1 ?_
  have hpar := turned_par hgs
  generalize (List.filter (fun a => !((marksN id).getD a 0 == (marksN (runN gs)).getD a 0)) (List.range 120)).length = C1 at hpar ⊢
  clear hC1
  repeat walk_at "e"
  with_reducible refine itIs rfl ⟨by rw [List.length_map, hgl]; decide, ?_⟩
  refine comp1_filtI dB (fun g => g.length == 4) dB gs _ _ (fun g hg Q' hq => ?_) (fun g hg _ Q' hq => ?_) fun ρ' => ?_
  · have hl4 : g.length ≤ 1000 := by have := gate_len (hgi g hg); (first | lia | omega)
    repeat walk_at "e"
    refine rLenB hl4 ?_
    repeat walk_at "e"
    refine cast (congrArg Q' ?_) hq
    rw [Bool.eq_iff_iff, beq_iff_eq, beq_iff_eq]
    constructor <;> intro h <;> (first | lia | omega)
  · repeat walk_at "e"
    exact hq
  rw [List.nil_append]
  clear ρ'
  have hC2 : (gs.filter fun g => g.length == 4).length ≤ 1000 := by
    refine Nat.le_trans (List.length_filter_le _ _) ?_
    (first | lia | omega)
  refine rLenN _ (List.length_map ..) hC2 ?_
  have hrp := rings_par hgs
  generalize (gs.filter fun g => g.length == 4).length = C2 at hpar hrp ⊢
  clear hC2
  repeat walk_at "e"
  have z1 : (!(Int.fmod (C1 : Int) 2 == Int.fmod (C2 : Int) 2)) = false := by
    rw [show Int.fmod (C1 : Int) 2 = ((C1 % 2 : Nat) : Int) from fmN C1 2, show Int.fmod (C2 : Int) 2 = ((C2 % 2 : Nat) : Int) from fmN C2 2, hpar]
    simp
  rw [z1]
  repeat walk_at "e"
  refine ⟨runN gs, rfl, hlt, ?_⟩
  repeat walk_at "e"
  have z2 : (!(Int.fmod (ringsN (runN gs) : Int) 2 == Int.fmod (C2 : Int) 2)) = false := by
    rw [show Int.fmod (ringsN (runN gs) : Int) 2 = ((ringsN (runN gs) % 2 : Nat) : Int) from fmN _ 2, show Int.fmod (C2 : Int) 2 = ((C2 % 2 : Nat) : Int) from fmN C2 2, hrp]
    simp
  rw [z2]
  repeat walk_at "e"
  clear z1 z2 hpar hrp
  refine ⟨gs, hgl, hgi, rfl, ?_⟩
  repeat walk_at "e"
  refine condFr rfl ?_
  repeat walk_at "e"
  refine slRev (by rw [List.length_map, hgl]; decide) ?_
  rw [← List.map_reverse]
  repeat walk_at "e"
  refine ⟨gs.reverse, hglr, hgir, rfl, ?_⟩
  repeat walk_at "e"
  refine condFr rfl ?_
  repeat walk_at "e"
  refine bList (by rw [List.length_map, List.length_map, hmA, hmB]; decide) ?_
  rw [← List.map_append]
  with_reducible refine itIs rfl ⟨by rw [List.length_map, List.length_append, hmA, hmB]; decide, ?_⟩
  refine comp1_filtI D.int (fun _ => false) D.int (marksN id ++ marksN (runN gs)) _ _ (fun a ha Q' hq => ?_) (fun a ha hf => by cases hf) fun ρ' => ?_
  · repeat walk_at "e"
    refine eIsi (by walk_at "r") f16 (by walk_at "r") ?_
    repeat walk_at "e"
    refine IsiP.int _ ?_
    repeat walk_at "e"
    exact hq
  clear ρ'
  have e2 : ([] : List D) ++ ((marksN id ++ marksN (runN gs)).filter fun _ => false).map D.int = [] := by
    rw [List.filter_eq_nil_iff.mpr (fun _ _ => by simp)]; rfl
  rw [e2]
  clear e2
  refine trList (Nat.zero_le _) ?_
  refine condFr rfl ?_
  repeat walk_at "e"
  refine ⟨_, id, rfl, range16, fun i hi => hi, ?_⟩
  have eD : ∀ k : Nat → Nat, (prs fun i j => D.int (bif decide (keyN (k j) < keyN (k i)) then 1 else -1)) = (marksN k).map .int := fun k => by
    unfold marksN; rw [prs_map]
  have hsI : ∀ ns : List Int, ∀ x ∈ ns.map D.int, sm 7 x x = true := fun ns x hx => by
    obtain ⟨i, _, rfl⟩ := List.mem_map.mp hx
    rfl
  rw [eD id]
  refine cNeEq rfl (hsI _) ?_
  repeat walk_at "e"
  refine ⟨_, runN gs, rfl, rfl, hlt, ?_⟩
  rw [eD (runN gs)]
  repeat walk_at "e"
  refine cNeEq rfl (hsI _) ?_
  repeat walk_at "e"
  with_reducible refine itIs range16 ⟨by rw [List.length_map, List.length_range]; decide, ?_⟩
  refine comp1_mapI dN (fun st => .str (rowS m o st)) (List.range 16) _ _ (fun st hst Q' hq => ?_) fun ρ' => ?_
  · have hst := List.mem_range.mp hst
    repeat walk_at "e"
    exact ⟨m, o, st, ho, hst, rfl, hq⟩
  clear ρ'
  rw [List.nil_append]
  refine cNeEq rfl (fun x hx => by
    obtain ⟨i, _, rfl⟩ := List.mem_map.mp hx
    rfl) ?_
  repeat walk_at "e"
  refine ⟨rowS m o, runN gs, fun i j hi hj e => row_inj m ho hi hj e, hlt, hinj2, rfl, ?_⟩
  repeat walk_at "e"
  exact h
end
section
set_option tactic.hygienic false
local macro_rules | `(tactic| walk_at "l") => `(tactic| with_reducible first
  | refine sbX (by assumption) (by walk_at "r") ?_ | refine sbRetX (by assumption) (by walk_at "r") ?_ | refine sbRet2 (by assumption) (by walk_at "r") ?_ | refine sbGen ?_ | refine sbNil ?_)
local macro_rules | `(tactic| walk_at "e") => `(tactic| with_reducible (refine atL ?_; walk_at "l"))

set_option maxHeartbeats 4000000 in
theorem bB_taped (T : Tab) (X : Str → Option Spec) (P : Params) (h1 : T.F (Str.ofString "bytes") = none) (h2 : T.F (Str.ofString "len") = none) (h3 : X (Str.ofString "_law_read_all") = some sReadAll) : BodyB T X 20 178 P [Str.ofString "gates"] sTaped := by
  rintro ds Q ⟨gs, hn, hg, rfl, h⟩
  refine ⟨rfl, ?_⟩
  dsimp only [List.zip, List.zipWith]
  conv => arg 4; whnf
  conv => arg 5; whnf
  generalize hR : D.list (gs.map dG) = R
  repeat walk_at "e"
  subst hR
  with_reducible refine itIs rfl ?_
  generalize hR : D.list (gs.map dG) = R
  refine forP_inv (fun items σ => ∃ (done rest : List (List Nat)) (ρ : List (Str × D)), items = rest.map dG ∧ gs = done ++ rest ∧
    ((σ = ⟨ρ, some (Str.ofString "octets", (tape done).map dN), true⟩ ∧ done = [] ∧ (∀ d, setV (Str.ofString "gate") d ρ = [(Str.ofString "gate", d), (Str.ofString "gates", R)])) ∨ (σ = ⟨ρ, none, true⟩ ∧ ρ.lookup (Str.ofString "octets") = some (.list ((tape done).map dN)) ∧ ∀ d, setV (Str.ofString "gate") d ρ = [(Str.ofString "gate", d), (Str.ofString "octets", .list ((tape done).map dN)), (Str.ofString "gates", R)]))) ?_ ?_ _ _ ⟨[], gs, _, rfl, rfl, .inl ⟨rfl, rfl, fun d => by walk_at "r"⟩⟩
  · rintro σ ⟨done, rest, ρ, e, hd, hσ⟩
    cases rest with
    | cons _ _ => cases e
    | nil =>
      rw [List.append_nil] at hd
      subst hd
      rcases hσ with ⟨_, hd, _⟩ | ⟨rfl, hl, _⟩
      · rw [hd] at hn; cases hn
      · have ht := tape_256 hg
        have htl := tape_len hg
        rw [hn] at htl
        have ht' : ∀ n ∈ (tape gs).dropLast, n < 256 := fun n hn => ht n (List.dropLast_subset _ hn)
        have htl' : (tape gs).dropLast.length ≤ 1000 := by rw [List.length_dropLast]; (first | lia | omega)
        repeat walk_at "e"
        refine eName hl ?_
        refine rBytesN ht (by (first | lia | omega)) ?_
        repeat walk_at "e"
        refine ⟨gs, by (first | lia | omega), by (first | lia | omega), hg, .inl ⟨rfl, ?_⟩⟩
        repeat walk_at "e"
        refine eName hl ?_
        repeat walk_at "e"
        refine slInit (by rw [List.length_map]; (first | lia | omega)) ?_
        rw [← List.map_dropLast]
        refine rBytesN ht' htl' ?_
        repeat walk_at "e"
        refine ⟨gs, by (first | lia | omega), by (first | lia | omega), hg, .inr ⟨rfl, ?_⟩⟩
        repeat walk_at "e"
        exact h
  · rintro d r σ ⟨done, rest, ρ, e, hd, hσ⟩
    cases rest with
    | nil => cases e
    | cons g rest =>
      cases e
      have htp : tape (done ++ [g]) = tape done ++ ([g.length] ++ g) := by
        unfold tape
        rw [List.flatMap_append, List.flatMap_cons, List.flatMap_nil, List.append_nil]
        rfl
      have hgg : ∀ x ∈ done ++ [g], GateIn x := fun x hx => hg x (by rw [hd]; rcases List.mem_append.mp hx with q | q; exact List.mem_append.mpr (.inl q); rw [List.mem_singleton.mp q]; exact List.mem_append.mpr (.inr (.head _)))
      have hdl : done.length + 1 ≤ 6 := by
        have := congrArg List.length hd
        rw [List.length_append, List.length_cons] at this
        (first | lia | omega)
      have hz := tape_len hgg
      rw [List.length_append, List.length_singleton, htp, List.length_append] at hz
      have hz1 : (tape done).length + [g.length].length ≤ 1000 := by rw [List.length_append] at hz; (first | lia | omega)
      have hz2 : (tape done ++ [g.length]).length + g.length ≤ 1000 := by rw [List.length_append] at hz ⊢; (first | lia | omega)
      have hgl := gate_len (hgg g (by simp))
      have hgl' : g.length ≤ 1000 := by (first | lia | omega)
      have hgm : (g.map dN).length = g.length := List.length_map ..
      rcases hσ with ⟨rfl, hdn, hp⟩ | ⟨rfl, hl, hp⟩
      · refine ⟨_, bindNameO (by walk_at "r") (hp _), fun K hK => ?_⟩
        repeat walk_at "e"
        refine sSetX (by walk_at "r") ?_
        repeat walk_at "e"
        refine rLenN g.length hgm hgl' ?_
        repeat walk_at "e"
        refine dList (x := tape done) (y := [g.length]) hz1 ?_
        repeat walk_at "e"
        refine dList hz2 ?_
        rw [List.append_assoc, ← htp]
        refine condF ?_
        repeat walk_at "e"
        refine hK _ ⟨done ++ [g], rest, _, rfl, by rw [List.append_assoc]; exact hd, .inr ⟨rfl, look_eq, fun d => ?_⟩⟩
        simp only [setV, List.filter_cons, List.filter_nil, str_beq, String.reduceBEq, Bool.not_false, Bool.not_true, Bool.false_eq_true, ↓reduceIte]
      · refine ⟨_, bindName (by walk_at "r") (hp _), fun K hK => ?_⟩
        repeat walk_at "e"
        refine rLenN g.length hgm hgl' ?_
        repeat walk_at "e"
        refine dList (x := tape done) (y := [g.length]) hz1 ?_
        repeat walk_at "e"
        refine dList hz2 ?_
        rw [List.append_assoc, ← htp]
        repeat walk_at "e"
        refine hK _ ⟨done ++ [g], rest, _, rfl, by rw [List.append_assoc]; exact hd, .inr ⟨rfl, by walk_at "r", fun d => by (simp only [setV, List.filter_cons, List.filter_nil, str_beq, String.reduceBEq, Bool.not_false, Bool.not_true, Bool.false_eq_true, ↓reduceIte])⟩⟩
end
end
end Mine
section
set_option tactic.hygienic false
open PySem PySem.W PySem.Calls PyProof.Rows
namespace Mine

theorem rev_lookup {names : List Str} {args : List Value} (hlen : args.length = names.length) (nd : names.Nodup) {x : Str} {v : Value} (h : (x, v) ∈ names.zip args) : (names.zip args).reverse.lookup x = some v := by
  have hn : ((names.zip args).map Prod.fst).Nodup := by rw [zip_fst (xs := names) (ys := args) hlen]; exact nd
  have key : ∀ (l : List (Str × Value)), (l.map Prod.fst).Nodup → (x, v) ∈ l → l.reverse.lookup x = some v := by
    intro l
    induction l with
    | nil => intro _ h; cases h
    | cons p r ih =>
      intro hn h
      rw [List.map_cons, List.nodup_cons] at hn
      rw [List.reverse_cons, List.lookup_append]
      rcases List.mem_cons.mp h with e | h
      · subst e
        have : r.reverse.lookup x = none := by
          rw [List.lookup_eq_none_iff]
          intro q hq
          have : q.1 ≠ x := fun e => hn.1 (e ▸ List.mem_map.mpr ⟨q, List.mem_reverse.mp hq, rfl⟩)
          simpa using fun e => this e.symm
        rw [this]; simp
      · rw [ih hn.2 h]; rfl
  exact key _ hn h

/-- what a closure's frame begins with -/
theorem clo_raw {Y : Sys} (Ok : SysOk Y) {a : Addr} {o : Obj} {fd : FuncData} {body : List Stmt} {names : List Str} {A : Around} {s : Shared} {hid : Addr → Bool} {args : List Value} {Q : Value → Shared → Prop} {E : Value → Shared → Prop}
    {k : Nat} (R : Room (k + 1) A) (g : Y.G s.heap) (H : HidOk Y hid s.heap) (ho : s.heap.get? a = some o) (hd : o.data = .func fd) (hc : s.heap.CodeRec fd.code fd.qualname)
    (hbody : fd.body = .stmts body) (hbind : bindArgs fd ⟨args, []⟩ = pure (names.zip args)) (hlen : args.length = names.length) (hglob : fd.globals = mainGlobals) (hbui : fd.builtins = builtinsNs) (nd : names.Nodup)
    (st : names.all (fun x => fd.scope.names.lookup x == some .local && !(x == ("__debug__" : Str))) = true) (nocell : fd.scope.names.all (fun p => !(p.2 == .cell)) = true)
    (hcell : ∀ z c, fd.closure.lookup z = some c → Y.base.get? c = none ∧ ∃ v, s.heap.IsCell c v) (hinj : ∀ x y c, fd.closure.lookup x = some c → fd.closure.lookup y = some c → x = y)
    (hco : fd.scope.isCoroutine = false) (hgen : fd.scope.isGenerator = false) (hk : fd.scope.kind = .function)
    (h : ∀ (env : Env) (s₁ : Shared), (∃ h tk, s₁ = { s with heap := h, toks := tk }) → (∀ b o, s.heap.get? b = some o → s₁.heap.get? b = some o) → s.heap.get? env.locals = none → SFr Y env → env.frame = some env.locals → env.cells = fd.closure → env.scope = fd.scope → (∀ x, env.kindOf x = fd.scope.names.lookup x) →
      SSt Y fd.scope env hid s₁.heap ⟨[], none, true⟩ none → (∀ x v, (x, v) ∈ names.zip args → (x == ("__debug__" : Str)) = false ∧ VarAt env s₁.heap x v) →
      wpAny (model Y.prog Y.w) (A.deeper env) (execs body env) (fun f s' => Q (match f with | .ret v => v | _ => .none) s') (fun e s' => wpAny (model Y.prog Y.w) (A.deeper env) (leaving env e) (fun _ s'' => E e s'') (fun e' s'' => E e' s'') s') s₁) :
    wpAny (model Y.prog Y.w) A (call (.ref a) args) Q E s := by
  have stl : ∀ x ∈ names, fd.scope.names.lookup x = some .local ∧ (x == ("__debug__" : Str)) = false := fun x hx => by
    have := List.all_eq_true.mp st _ hx
    simp only [Bool.and_eq_true, beq_iff_eq, Bool.not_eq_true'] at this
    exact ⟨this.1, this.2⟩
  have noc : ∀ x ∈ fd.scope.names, x.2 ≠ .cell := fun x hx => by
    have := List.all_eq_true.mp nocell _ hx
    simpa using this
  refine wpAny_call (codeAny_call_def (by have := R.d; omega) ho hd (Ok.nolim _ g) hc hbody (BindsTo.of_eq hbind) noc (fun x hx => (stl x.1 (List.of_mem_zip hx).1).1) (fun h₀ ns kp => ?_) hco hgen hk)
  generalize he : callEnv fd s.heap.objs.size a = env
  have eL : env.locals = s.heap.objs.size := by rw [← he]; rfl
  have eF : env.frame = some env.locals := by rw [← he]; rfl
  have eC : env.cells = fd.closure := by rw [← he]; rfl
  have eS : env.scope = fd.scope := by rw [← he]; rfl
  have ek : ∀ x, env.kindOf x = fd.scope.names.lookup x := fun x => by rw [← he]; rfl
  have fL : s.heap.get? env.locals = none := by rw [eL]; exact get_size _
  have g1 := Ok.mono _ _ g kp
  have H1 : HidOk Y hid h₀ := H.up (.of kp) (let ⟨_, e⟩ := Ok.tab _ g1; ⟨_, e⟩)
  rw [← eL] at ns
  have Fr : SFr Y env := ⟨fun x y c e1 e2 => by rw [eC] at e1 e2; exact hinj x y c e1 e2, fun x c e => by rw [eC] at e; exact (hcell x c e).1⟩
  have V : EnvOk Y fd.scope env h₀ hid [] := by
    refine ⟨by rw [eS]; exact hk, eS, by rw [← he]; exact hglob, by rw [← he]; exact hbui, Ok.fresh _ _ g fL, fun x hx => absurd rfl (noc _ (mem_of_lookup hx)), fun z c e => ?_, fun x d hx => by cases hx⟩
    rw [eC] at e
    obtain ⟨_, v, o, e1, e2⟩ := hcell z c e
    exact ⟨v, o, kp _ _ e1, e2⟩
  refine wpAny_mono (h env { s with heap := h₀, toks := s.toks + (names.zip args).length } ⟨_, _, rfl⟩ kp fL Fr eF eC eS ek ⟨V, g1, H1, ⟨_, ns⟩, trivial⟩ fun x v hv => ?_) (fun f s' q => q) fun e s' q => q
  obtain ⟨q1, q2⟩ := stl x (List.of_mem_zip hv).1
  exact ⟨q2, .inl ⟨by rw [ek]; exact q1, _, ns, rev_lookup hlen nd hv⟩⟩
end Mine
end
section
set_option tactic.hygienic false
open PySem PySem.W PySem.Calls PyProof.Rows
namespace Mine
noncomputable def rdParams (P : Params) : Arguments := match bodyOf 124 P with
  | _ :: .FunctionDef _ a _ _ _ _ _ _ _ _ :: _ => a
  | _ => default
noncomputable def rdBody (P : Params) : List Stmt := match bodyOf 124 P with
  | _ :: .FunctionDef _ _ b _ _ _ _ _ _ _ :: _ => b
  | _ => []
noncomputable def rdScope (P : Params) : Scope := match bodyOf 124 P with
  | _ :: .FunctionDef _ _ _ _ _ _ s _ _ _ :: _ => s
  | _ => default
noncomputable abbrev rdFn (P : Params) (qual : Str) (co ca : Addr) (doc pm code ct : Value) : FuncData := fnX (Str.ofString "_law_read") qual (rdParams P) (rdBody P) (rdScope P) [(Str.ofString "octets", co), (Str.ofString "at", ca)] .none .none doc pm none code ct

section
variable {Y : Sys} {T : Tab} {k : Nat}
theorem raw_storeL (Ok : SysOk Y) {A : Around} {E : Value → Shared → Prop} {s : Shared} {hid : Addr → Bool} {env : Env} {sc : Scope} {y : Str} {v : Value} {R : Unit → Shared → Prop} (S : Raw Y sc env hid s.heap) (hl : sc.names.lookup y = some .local)
    (hR : ∀ h' tk, Raw Y sc env hid h' → (∀ b o, b ≠ env.locals → s.heap.get? b = some o → h'.get? b = some o) → VarAt env h' y v → (∀ z w, z ≠ y → VarAt env s.heap z w → VarAt env h' z w) → R () { s with heap := h', toks := tk }) :
    wpAny (model Y.prog Y.w) A (storeName env y v) R E s := by
  obtain ⟨m, n⟩ := S.ns
  have hk : (env.scope.kind == .class || (env.scope.kind == .module && env.locals != env.globals)) = false := by rw [S.V.kind]; rfl
  have kl : env.kindOf y = some .local := by unfold Env.kindOf; rw [S.V.sce]; exact hl
  refine wpAny_storeName_local kl n (fun h' n' hs' => ?_) hk
  have kk : ∀ b o, b ≠ env.locals → s.heap.get? b = some o → h'.get? b = some o := fun b o hb e => (hs'.2 b hb).trans e
  have g' : Y.G h' := Ok.chg _ _ [env.locals] S.g (fun a ha => by simp at ha; subst ha; exact ⟨S.V.baseL, ns_notP Ok S.g n, ns_notCode n⟩) fun b o hb e => kk b o (by simpa using hb) e
  refine hR h' _ ⟨⟨S.V.kind, S.V.sce, S.V.glob, S.V.bui, S.V.baseL, S.V.cells, fun z c hc => ?_, fun x d e => by cases e⟩, g', ⟨S.H.p, fun b hb => ?_, S.H.cst⟩, ⟨_, n'⟩, trivial⟩ kk (.inl ⟨kl, _, n', by simp⟩) (fun z w hz hw => ?_)
  · obtain ⟨w, n2⟩ := S.V.cellAt z c hc
    obtain ⟨o, e3, d3⟩ := id n2
    exact ⟨w, o, kk c o (ns_ne_cell n n2) e3, d3⟩
  · by_cases hbp : b = env.locals
    · subst hbp; obtain ⟨o, _, _, e, _⟩ := n'; exact ⟨o, e⟩
    · obtain ⟨o, e⟩ := S.H.live b hb; exact ⟨o, kk b o hbp e⟩
  · rcases hw with ⟨q, m', n2, hm⟩ | ⟨q, hd, c, e2, n2⟩
    · refine .inl ⟨q, _, n', ?_⟩
      rw [if_neg hz, ns_unique n n2]; exact hm
    · obtain ⟨o, e3, d3⟩ := id n2
      exact .inr ⟨q, hd, c, e2, o, kk c o (ns_ne_cell n n2) e3, d3⟩
/-- what is needed of the tape's def -/
structure ReadAt (Y : Sys) (P : Params) (h : Heap) (pf pat : Addr) (B : Array UInt8) : Prop where
  ex : ∃ o qual co ca doc pm code ct tB, h.get? pf = some o ∧ o.data = .func (rdFn P qual co ca doc pm code ct) ∧ h.CodeRec code qual ∧ h.IsCell co (some (.bytes B tB)) ∧ h.IsCell ca (some (.ref pat)) ∧ co ≠ ca ∧ Y.base.get? co = none ∧ Y.base.get? ca = none ∧ code ≠ .ref Y.P
noncomputable def AtPos (h : Heap) (pat : Addr) (pos : Nat) : Prop := ∃ t, h.IsList pat #[.int pos t]

theorem rd_bind (P : Params) (qual : Str) (co ca : Addr) (doc pm code ct v : Value) : bindArgs (rdFn P qual co ca doc pm code ct) ⟨[v], []⟩ = pure [(Str.ofString "count", v)] := by kernel_rfl!
theorem read_ok (Ok : SysOk Y) (TO : TabOk Y k T) (hlen : T.F (Str.ofString "len") = none) (P : Params) {A : Around} {s : Shared} {hid : Addr → Bool} {pf pat : Addr} {B : Array UInt8} {pos n : Nat} {tn : Tok} {Q : Value → Shared → Prop} {E : Value → Shared → Prop}
    (R : Room (k + 1) A) (g : Y.G s.heap) (H : HidOk Y hid s.heap) (RA : ReadAt Y P s.heap pf pat B) (L : AtPos s.heap pat pos) (bp : Y.base.get? pat = none) (hp : hid pat = false) (hsz : B.size ≤ 100) (hpos : pos ≤ B.size) (hn : n ≤ 1000)
    (h : ∀ h' tk t', (∀ b o, b ≠ Y.P → b ≠ pat → s.heap.get? b = some o → h'.get? b = some o) → Y.G h' → AtPos h' pat (pos + ((B.toList.drop pos).take n).length) → Q (.bytes ((B.toList.drop pos).take n).toArray t') { s with heap := h', toks := tk }) :
    wpAny (model Y.prog Y.w) A (call (.ref pf) [.int n tn]) Q E s := by
  obtain ⟨o, qual, co, ca, doc, pm, code, ct, tB, ho, hd, hc, c1, c2, hne, b1, b2, nP⟩ := RA.ex
  obtain ⟨tp, il⟩ := L
  have oa : (Str.ofString "octets" == Str.ofString "at") = false := by kernel_rfl!
  have ao : (Str.ofString "at" == Str.ofString "octets") = false := by kernel_rfl!
  have lO : List.lookup (Str.ofString "octets") [(Str.ofString "octets", co), (Str.ofString "at", ca)] = some co := by simp [List.lookup]
  have lA : List.lookup (Str.ofString "at") [(Str.ofString "octets", co), (Str.ofString "at", ca)] = some ca := by simp [List.lookup, ao]
  have lx : ∀ z c, List.lookup z [(Str.ofString "octets", co), (Str.ofString "at", ca)] = some c → (z = Str.ofString "octets" ∧ c = co) ∨ (z = Str.ofString "at" ∧ c = ca) := by
    intro z c e
    rw [List.lookup_cons] at e
    split at e
    · rename_i q; cases e; exact .inl ⟨eq_of_beq q, rfl⟩
    · rw [List.lookup_cons] at e
      split at e
      · rename_i q; cases e; exact .inr ⟨eq_of_beq q, rfl⟩
      · cases e
  refine clo_raw (fd := rdFn P qual co ca doc pm code ct) (names := [Str.ofString "count"]) (args := [.int n tn]) Ok R g H ho hd hc rfl (rd_bind ..) rfl rfl rfl (by simp) (by with_unfolding_all rfl) (by with_unfolding_all rfl) (fun z c e => ?_) (fun x y c e1 e2 => ?_) (by with_unfolding_all rfl) (by with_unfolding_all rfl) (by with_unfolding_all rfl) fun env s₁ sm kp fL Fr eF eC eS eK S0 hv => ?_
  · rcases lx z c e with ⟨_, rfl⟩ | ⟨_, rfl⟩
    · exact ⟨b1, _, c1⟩
    · exact ⟨b2, _, c2⟩
  · rcases lx x c e1 with ⟨rfl, rfl⟩ | ⟨rfl, rfl⟩ <;> rcases lx y _ e2 with ⟨rfl, q⟩ | ⟨rfl, q⟩ <;> first | rfl | exact absurd q hne | exact absurd q.symm hne
  obtain ⟨h1, tk1, rfl⟩ := sm
  have hvC := (hv (Str.ofString "count") (.int n tn) (.head _)).2
  change (∀ b o, s.heap.get? b = some o → h1.get? b = some o) at kp
  have kO : (rdScope P).names.lookup (Str.ofString "octets") = some .free := by with_unfolding_all rfl
  have kA : (rdScope P).names.lookup (Str.ofString "at") = some .free := by with_unfolding_all rfl
  have hvO : VarAt env h1 (Str.ofString "octets") (.bytes B tB) := .inr ⟨.inr (by rw [eK]; exact kO), by kernel_rfl!, co, by rw [eC]; exact lO, let ⟨o, e, d⟩ := c1; ⟨o, kp _ _ e, d⟩⟩
  have hvA : VarAt env h1 (Str.ofString "at") (.ref pat) := .inr ⟨.inr (by rw [eK]; exact kA), by kernel_rfl!, ca, by rw [eC]; exact lA, let ⟨o, e, d⟩ := c2; ⟨o, kp _ _ e, d⟩⟩
  have il1 : h1.IsList pat #[.int pos tp] := il.at fun o e => kp pat o e
  clear kO kA lO lA lx c1 c2 hv
  conv in (rdBody P) => whnf
  have S1 : SSt Y (rdScope P) env hid h1 ⟨[(Str.ofString "octets", .bytes B), (Str.ofString "at", .list [.int pos]), (Str.ofString "count", .int n)], none, true⟩ none := let ⟨oo, eo, co', nn, dd⟩ := il1
    S0.withVars (lkE ⟨by kernel_rfl!, _, hvO, .bytes ..⟩ (lkE ⟨by kernel_rfl!, _, hvA, .list (vis_of eo hp) co' dd (.cons (.int ..) .nil)⟩ (lkE ⟨by kernel_rfl!, _, hvC, .int ..⟩ lkN)))
  have hcut : cutL (some (pos : Int)) (some ((pos : Int) + (n : Int))) B.toList = (B.toList.drop pos).take n := by
    have e : ((pos : Int) + (n : Int)) = ((pos + n : Nat) : Int) := by (first | lia | omega)
    rw [e]
    show (B.toList.drop (clipAt B.toList.length (pos : Int))).take (clipAt B.toList.length ((pos + n : Nat) : Int) - clipAt B.toList.length (pos : Int)) = _
    have hl : pos ≤ B.toList.length := by simpa using hpos
    rw [clip_nn, clip_nn, Nat.min_eq_left hl, List.take_eq_take_iff, List.length_drop]
    rcases Nat.le_total (pos + n) B.toList.length with h | h
    · rw [Nat.min_eq_left h, Nat.add_sub_cancel_left]
    · rw [Nat.min_eq_right h, Nat.min_self, Nat.min_eq_right (Nat.sub_le_iff_le_add'.mpr h)]
  have hszL : B.size ≤ sizeLine := Nat.le_trans hsz (by decide)
  refine wpAny_execs_cons (wpAny_Assign_Name (bindP (wpE_sound Ok TO 10 (rdScope P) _ _ (fun d => d = .bytes ((B.toList.drop pos).take n).toArray) (A.deeper env) { s with heap := h1, toks := tk1 } env (hidO hid none) _ ?_ S1.V S1.g (S1.hidO Ok) (R.deeper env)) fun v s2 d u r q => ?_) rfl)
  · have gi : ∀ {Q : D → Prop}, Q (.int pos) → getP (.list [.int pos]) (.int 0) Q := fun hq => gList (by decide) (by rfl : seqIndex? 0 1 = some 0) rfl hq
    refine eSlice (eName (d := .bytes B) (by with_unfolding_all rfl) (opSome (eItem rfl (eName (d := .list [.int pos]) (by with_unfolding_all rfl) (eInt (gi ?_))))))
    refine opSome (eBin (eItem rfl (eName (d := .list [.int pos]) (by with_unfolding_all rfl) (eInt (gi ?_)))))
    refine eName (d := .int n) (by with_unfolding_all rfl) (bAdd (opNone ?_))
    exact ⟨_, _, rfl, rfl, .bytes _ hszL (by rw [hcut])⟩
  subst q
  refine Rep.bytesE r fun tv => ?_
  clear r
  obtain ⟨h2, tk2, rfl, k2, g2⟩ := u
  have S2 : Raw Y (rdScope P) env hid h2 := S0.up Ok k2 g2
  have hlt : ∀ b o, b ≠ Y.P → s.heap.get? b = some o → h2.get? b = some o := fun b o hP e => k2 b o hP (kp b o e)
  have hvA2 := hvA.up Ok S0.g k2
  have st1 : (rdScope P).names.lookup (Str.ofString "piece") = some .local := by with_unfolding_all rfl
  refine raw_storeL (s := { s with heap := h2, toks := tk2 }) Ok S2 st1 fun h3 tk3 S3 kk3 vP3 vo3 => ?_
  have live_ne : ∀ b o, s.heap.get? b = some o → b ≠ env.locals := fun b o e => by rintro rfl; rw [fL] at e; cases e
  have hk3 : ∀ b o, b ≠ Y.P → s.heap.get? b = some o → h3.get? b = some o := fun b o hP e => kk3 b o (live_ne b o e) (hlt b o hP e)
  have patP : pat ≠ Y.P := list_notP Ok g il
  have il3 : h3.IsList pat #[.int pos tp] := il.at fun o e => hk3 pat o patP e
  have hvA3 := vo3 _ _ (ne_of_beq_false (by kernel_rfl!)) hvA2
  have S3' : SSt Y (rdScope P) env hid h3 ⟨[(Str.ofString "piece", .bytes ((B.toList.drop pos).take n).toArray)], none, true⟩ none := S3.withVars (lkE ⟨by kernel_rfl!, _, vP3, .bytes ..⟩ lkN)
  refine wpAny_execs_cons (wpAny_AugAssign_SubscriptAny (load_var (s := { s with heap := h3, toks := tk3 }) S3.V (by kernel_rfl!) hvA3 (wpAny_Constant_int (wpAny_getItem_list il3 (by decide) (by decide) rfl (bindP (wpE_sound Ok TO 10 (rdScope P) _ _ (fun d => d = .int ((B.toList.drop pos).take n).length) (A.deeper env) { s with heap := h3, toks := _ } env (hidO hid none) _ ?_ S3'.V S3'.g (S3'.hidO Ok) (R.deeper env)) fun v s4 d u r q => ?_)))))
  · refine eBi1 (by with_unfolding_all rfl) hlen rfl (by decide +kernel) (eName (d := .bytes ((B.toList.drop pos).take n).toArray) (by with_unfolding_all rfl) ?_)
    refine rLen (n := ((B.toList.drop pos).take n).length) (by show some (List.toArray _).size = _; rw [List.size_toArray]) (Nat.le_trans (List.length_take_le' _ _) (by rw [List.length_drop, Array.length_toList]; (first | lia | omega))) rfl
  subst q
  refine Rep.intE r fun _ => ?_
  clear r
  obtain ⟨h4, tk4, rfl, k4, g4⟩ := u
  refine wpAny_iadd_int ?_
  have S4 : Raw Y (rdScope P) env hid h4 := S3.up Ok k4 g4
  have vP4 := vP3.up Ok S3.g k4
  have il4 : h4.IsList pat #[.int pos tp] := il3.at fun o e => k4 pat o patP e
  refine wpAny_setItem_list (s := { s with heap := h4, toks := _ }) il4 (by decide) (by decide) (by show (0 : Int) < 1; decide) fun h5 il5 sb => ?_
  obtain ⟨S5, v5⟩ := raw_chg (L := [pat]) Ok S4 (fun b o hb e => (sb.2 b (nm1 hb)).trans e) (mem1E <| by
    obtain ⟨oo, eo, _, nn, dd⟩ := il4
    obtain ⟨o5, eo5, _⟩ := il5
    exact ⟨⟨oo, eo, by simp [isDat, dd], fun vs q t e => by rw [dd] at e; cases e⟩, ⟨_, eo5⟩, bp, patP⟩)
  refine wpAny_execs_cons (wpAny_Return_some (load_var (s := { s with heap := h5, toks := _ }) S5.V (by kernel_rfl!) (v5 _ _ vP4) ?_))
  have e : ((pos + ((B.toList.drop pos).take n).length : Nat) : Int) = (pos : Int) + (((B.toList.drop pos).take n).length : Int) := by (first | lia | omega)
  refine h h5 _ tv (fun b o hP hb e => (sb.2 b hb).trans (k4 b o hP (hk3 b o hP e))) S5.g ?_
  unfold AtPos
  rw [e]
  exact ⟨_, il5⟩
end
end Mine
end
section
set_option tactic.hygienic false
open PySem PySem.W PySem.Calls PyProof.Rows Builtin.ObjectAttr
namespace Mine
theorem k_ga (P : Params) : findIn (hd.heap_39 P) (.ref 99) "__getattribute__" = some (some (.builtin "object.__getattribute__")) := by kernel_rfl!
theorem k_gat (P : Params) : findIn (hd.heap_39 P) (.ref 99) "__getattr__" = some none := by kernel_rfl!
theorem k_read (P : Params) : findIn (hd.heap_39 P) (.ref 99) (Str.ofString "read") = some none := by kernel_rfl!
theorem k_sa (P : Params) : findIn (hd.heap_39 P) (.ref 99) "__setattr__" = some (some (.builtin "object.__setattr__")) := by kernel_rfl!
theorem k_plain (P : Params) : plainOver (hd.heap_39 P) 99 = true := by kernel_rfl!
theorem k_tread (P : Params) : takerIn (hd.heap_39 P) 99 (Str.ofString "read") = some none := by kernel_rfl!
theorem k_tval (P : Params) : takerIn (hd.heap_39 P) 99 (Str.ofString "value") = some none := by kernel_rfl!
theorem k_dict (P : Params) : (clsIn (hd.heap_39 P) 99).any (·.hasDict) = true := by kernel_rfl!
theorem k_makes (P : Params) : makesIn (hd.heap_39 P) 99 = true := by kernel_rfl!
theorem k_init (P : Params) : findIn (hd.heap_39 P) (.ref 99) "__init__" = some (some (.ref 96)) := by kernel_rfl!
theorem k_initf (P : Params) : typeIn (hd.heap_39 P) (.ref 96) = some (.type "function") := by kernel_rfl!
theorem k_find {P : Params} {od : Obj} {v : Value} (e : lookIn (Str.ofString "read") od = some (some v)) : findObj (hd.heap_39 P) 99 (some od) (Str.ofString "read") = some (.value v) := by
  have key : findObj (hd.heap_39 P) 99 (some od) (Str.ofString "read") = ((lookIn (Str.ofString "read") od).bind fun own => match own with
      | some v => some (Found.value v)
      | none => some .missing) := by kernel_rfl!
  rw [key, e]; rfl

/-- the tape: an object with a function of its own -/
structure TapeAt (Y : Sys) (P : Params) (h : Heap) (pt pat : Addr) (B : Array UInt8) : Prop where
  ex : ∃ dx od pf, h.get? pt = some (instObj 99 dx) ∧ h.get? dx = some od ∧ lookIn (Str.ofString "read") od = some (some (.ref pf)) ∧ ReadAt Y P h pf pat B
section
variable {Y : Sys} {T : Tab} {k : Nat} {A : Around} {E : Value → Shared → Prop} {s : Shared} {hid : Addr → Bool} {env : Env} {sc : Scope} {ρ : List (Str × D)} {l : List Env}
theorem tape_read (Ok : SysOk Y) (TO : TabOk Y k T) (hlen : T.F (Str.ofString "len") = none) (P : Params) (KIn : ∀ h, Y.G h → (hd.heap_39 P).In h) {x : Str} {px ap cp : Pos} {e : Expr} {pt pat : Addr} {B : Array UInt8} {pos n : Nat} {Q : Value → Shared → Prop}
    (R : Room (k + 1) A) (S : Raw Y sc env hid s.heap) (hd' : (x == ("__debug__" : Str)) = false) (hv : VarAt env s.heap x (.ref pt)) (TA : TapeAt Y P s.heap pt pat B) (L : AtPos s.heap pat pos) (bp : Y.base.get? pat = none) (hp : hid pat = false) (hsz : B.size ≤ 100) (hpos : pos ≤ B.size) (hn : n ≤ 1000)
    (he : ∀ (s' : Shared), s'.heap = s.heap → ∀ (R : Value → Shared → Prop), (∀ t tk, R (.int n t) { s' with toks := tk }) → wpAny (model Y.prog Y.w) A (eval e env) R E s')
    (hst : starEach [e] env = [(false, eval e env)] := by rfl) {pl : Sem Bool} (heq : eval (.Call (.Attribute (.Name x px) (Str.ofString "read") ap) [e] [] cp) env = (do
      let ov ← eval (.Name x px) env
      standAt ap.atName
      let (f, first) ← holding [ov] (getMethod ov (Str.ofString "read") pl)
      callWith cp f first (backTo cp (starEach [e] env)) (backToKw cp (keywordEach [] env))) := by rfl)
    (h : ∀ h' tk t', (∀ b o, b ≠ Y.P → b ≠ pat → s.heap.get? b = some o → h'.get? b = some o) → Y.G h' → AtPos h' pat (pos + ((B.toList.drop pos).take n).length) → Q (.bytes ((B.toList.drop pos).take n).toArray t') { s with heap := h', toks := tk }) :
    wpAny (model Y.prog Y.w) A (eval (.Call (.Attribute (.Name x px) (Str.ofString "read") ap) [e] [] cp) env) Q E s := by
  obtain ⟨dx, od, pf, h1, h2, h3, RA⟩ := TA.ex
  have X := KIn _ S.g
  have I : InstAt s.heap pt (instObj 99 dx) 99 (some od) := ⟨h1, rfl, rfl, h2⟩
  refine methodCall_KW (name := Str.ofString "read") (pl := pl) (load_var S.V hd' hv (method_usual X I (k_ga P) (k_gat P) (k_read P) rfl (get_value X I (k_ga P) (k_find h3) rfl ?_))) heq
  obtain ⟨o, qual, co, ca, doc, pm, code, ct, tB, ho, hfd, _⟩ := id RA.ex
  refine callWith_F ⟨_, _, _, _, (show s.heap.get? pf = some ⟨o.cls, o.dict, .func _, o.slots⟩ from by rw [ho, ← hfd])⟩ ?_ hst rfl
  refine spliced_more (e := e) (rest := []) (he { s with toks := s.toks + 1 } rfl _ fun t tk => spliced_none ?_) hst
  refine ⟨⟨_, _, _, _, (show s.heap.get? pf = some ⟨o.cls, o.dict, .func _, o.slots⟩ from by rw [ho, ← hfd])⟩, ?_⟩
  exact read_ok (s := { s with toks := tk }) Ok TO hlen P R S.g S.H RA L bp hp hsz hpos hn h
end
end Mine
end
section
set_option tactic.hygienic false
open PySem PySem.W PySem.Calls PyProof.Rows Builtin.ObjectAttr
namespace Mine
/-- all is kept but the tape's place and the code's table -/
noncomputable def KpT (Y : Sys) (pat : Addr) (h h' : Heap) : Prop := ∀ b o, b ≠ Y.P → b ≠ pat → h.get? b = some o → h'.get? b = some o
theorem KpT.trans {Y : Sys} {pat : Addr} {h h' h'' : Heap} (a : KpT Y pat h h') (b : KpT Y pat h' h'') : KpT Y pat h h'' := fun x o n m e => b x o n m (a x o n m e)
/-- a ValueError that flies out of what was called at `h0` -/
structure Flies (Y : Sys) (l : List Env) (pat : Addr) (h0 : Heap) (args : List Value) (hE : Heap) (e : Addr) (h' : Heap) : Prop where
  kp : KpT Y pat h0 hE
  g : Y.G hE
  ex : ∃ lc t, FrOk Y hE lc ∧ (∀ b ∈ frs lc, b ∈ frs l ∨ h0.get? b = none) ∧ Heap.FlyingW (hideAll hE (frs lc)) l e (.type "ValueError") (.ref t) h' ∧ h'.TupAt t args ∧ (hideAll hE (frs lc)).get? t = none ∧ hE.UpToSlots h'
section
variable {Y : Sys} {T : Tab} {k : Nat}
theorem raw_kpt {sc : Scope} {env : Env} {hid : Addr → Bool} {pat : Addr} (Ok : SysOk Y) {h h' : Heap} (S : Raw Y sc env hid h) (kk : KpT Y pat h h') (g' : Y.G h') (hA : ∃ o, h.get? pat = some o ∧ isDat o = true) (hA' : ∃ o, h'.get? pat = some o) : Raw Y sc env hid h' ∧ ∀ x v, VarAt env h x v → VarAt env h' x v := by
  have nL : ∀ {a : Addr} {m : Str → Option Value}, h.Ns a m → a ≠ pat := fun n hm => by
    obtain ⟨o, e, d⟩ := hA
    rw [hm] at n
    rw [ns_isDat n o e] at d; cases d
  have nC : ∀ {a : Addr} {m : Option Value}, h.IsCell a m → a ≠ pat := fun n hm => by
    obtain ⟨o, e, d⟩ := hA
    rw [hm] at n
    rw [cell_isDat n o e] at d; cases d
  have vv : ∀ x v, VarAt env h x v → VarAt env h' x v := by
    intro x v hv
    rcases hv with ⟨q, m, n, hm⟩ | ⟨q, hc, c, e, n⟩
    · exact .inl ⟨q, m, n.at' fun o e => kk _ o (ns_notP Ok S.g n) (nL n) e, hm⟩
    · obtain ⟨o, e2, d2⟩ := id n
      exact .inr ⟨q, hc, c, e, o, kk c o (cell_notP Ok S.g n) (nC n) e2, d2⟩
  refine ⟨⟨⟨S.V.kind, S.V.sce, S.V.glob, S.V.bui, S.V.baseL, S.V.cells, fun z c e => ?_, fun x d e => by cases e⟩, g', ⟨S.H.p, fun b hb => ?_, S.H.cst⟩, ?_, trivial⟩, vv⟩
  · obtain ⟨v, n⟩ := S.V.cellAt z c e
    obtain ⟨o, e2, d2⟩ := id n
    exact ⟨v, o, kk c o (cell_notP Ok S.g n) (nC n) e2, d2⟩
  · by_cases q : b = pat
    · rw [q]; exact hA'
    · by_cases q2 : b = Y.P
      · rw [q2]; obtain ⟨_, e⟩ := Ok.tab _ g'; exact ⟨_, e⟩
      · obtain ⟨o, e⟩ := S.H.live b hb; exact ⟨o, kk b o q2 q e⟩
  · obtain ⟨m, n⟩ := S.ns; exact ⟨m, n.at' fun o e => kk _ o (ns_notP Ok S.g n) (nL n) e⟩
theorem AtPos.dat {h : Heap} {pat : Addr} {pos : Nat} (L : AtPos h pat pos) : ∃ o, h.get? pat = some o ∧ isDat o = true := by
  obtain ⟨t, o, e, c, n, d⟩ := L
  exact ⟨o, e, by simp [isDat, d]⟩
theorem AtPos.live {h : Heap} {pat : Addr} {pos : Nat} (L : AtPos h pat pos) : ∃ o, h.get? pat = some o := let ⟨o, e, _⟩ := L.dat; ⟨o, e⟩
theorem uint1_ok (Ok : SysOk Y) (TO : TabOk Y k T) (hlen : T.F (Str.ofString "len") = none) (P : Params) (KIn : ∀ h, Y.G h → (hd.heap_39 P).In h) (N : FnAt Y 75 (fdOf 75 P) (bodyOf 75 P) [Str.ofString "f"])
    {A : Around} {s : Shared} {hid : Addr → Bool} {l : List Env} {pt pat : Addr} {B : Array UInt8} {pos : Nat} {Q : Value → Shared → Prop} {E : Value → Shared → Prop}
    (R : Room (k + 1 + 1) A) (hfr : A.frames = some l) (Fl : FrOk Y s.heap l) (g : Y.G s.heap) (H : HidOk Y hid s.heap) (TA : TapeAt Y P s.heap pt pat B) (L : AtPos s.heap pat pos) (bp : Y.base.get? pat = none) (hp : hid pat = false) (hsz : B.size ≤ 100) (hpos : pos ≤ B.size)
    (h : ∀ c, B.toList[pos]? = some c → ∀ h' tk t', KpT Y pat s.heap h' → Y.G h' → AtPos h' pat (pos + 1) → Q (.int c.toNat t') { s with heap := h', toks := tk })
    (hE : B.toList[pos]? = none → ∀ hE h' tk t' e, Flies Y l pat s.heap [.str wU t'] hE e h' → AtPos hE pat pos → E (.ref e) { s with heap := h', toks := tk }) :
    wpAny (model Y.prog Y.w) A (call (.ref 75) [.ref pt]) Q E s := by
  refine fn_raw Ok N R g H rfl fun env s₁ sm kp fL fC Fr eF S0 hv => ?_
  have BF := bfr_of Ok Fl g Fr eF fL fC
  obtain ⟨h1, tk1, rfl⟩ := sm
  change (∀ b o, s.heap.get? b = some o → h1.get? b = some o) at kp
  have hvF := (hv (Str.ofString "f") (.ref pt) (.head _)).2
  have patP : pat ≠ Y.P := let ⟨t, il⟩ := L; list_notP Ok g il
  have TA1 : TapeAt Y P h1 pt pat B := by
    obtain ⟨dx, od, pf, q1, q2, q3, RA⟩ := TA.ex
    obtain ⟨o, qual, co, ca, doc, pm, code, ct, tB, ho, hfd, hc, c1, c2, r⟩ := RA.ex
    refine ⟨dx, od, pf, kp _ _ q1, kp _ _ q2, q3, o, qual, co, ca, doc, pm, code, ct, tB, kp _ _ ho, hfd, ?_, let ⟨o, e, d⟩ := c1; ⟨o, kp _ _ e, d⟩, let ⟨o, e, d⟩ := c2; ⟨o, kp _ _ e, d⟩, r⟩
    obtain ⟨c, oc, vs, t, e1, e2, e3⟩ := hc
    exact ⟨c, oc, vs, t, e1, kp _ _ e2, e3⟩
  have L1 : AtPos h1 pat pos := let ⟨t, il⟩ := L; ⟨t, il.at fun o e => kp pat o e⟩
  have hhA : (A.deeper env).handled = none := (R.deeper env).h
  have stD : (fdOf 75 P).scope.names.lookup (Str.ofString "data") = some .local := by with_unfolding_all rfl
  have hgV : globalKind (fdOf 75 P).scope (Str.ofString "ValueError") = true := by with_unfolding_all rfl
  conv in (bodyOf 75 P) => whnf
  refine wpAny_execs_cons (wpAny_Assign_Name (tape_read (n := 1) (s := { s with heap := h1, toks := tk1 }) Ok TO hlen P KIn (R.deeper env) S0 (by kernel_rfl!) hvF TA1 L1 bp hp hsz hpos (by (first | lia | omega)) (fun s' hs' R' hR => wpAny_Constant_int (hR _ _)) rfl rfl fun h2 tk2 t2 k2 g2 L2 => ?_) rfl)
  obtain ⟨S2, v2⟩ := raw_kpt (pat := pat) Ok S0 k2 g2 L1.dat L2.live
  refine raw_storeL (s := { s with heap := h2, toks := tk2 }) Ok S2 stD fun h3 tk3 S3 kk3 vD3 vo3 => ?_
  have live_ne : ∀ b o, s.heap.get? b = some o → b ≠ env.locals := fun b o e => by rintro rfl; rw [fL] at e; cases e
  have kt3 : KpT Y pat s.heap h3 := fun b o n m e => kk3 b o (live_ne b o e) (k2 b o n m (kp b o e))
  have patL : pat ≠ env.locals := let ⟨o, e⟩ := L.live; live_ne pat o e
  have L3 : AtPos h3 pat (pos + ((B.toList.drop pos).take 1).length) := let ⟨t, il⟩ := L2; ⟨t, il.at fun o e => kk3 pat o patL e⟩
  have Fl3 : FrOk Y h3 l := Fl.keeps fun b o hb e => kt3 b o (BF.apart b hb).2.2 (fun q => by
    subst q
    obtain ⟨o', e', d⟩ := L.dat
    rw [Fl.isDat hb o' e'] at d; cases d) e
  have e1 : (B.toList.drop pos).take 1 = B.toList[pos]?.toList := by
    by_cases hl : pos < B.toList.length
    · rw [List.drop_eq_getElem_cons hl, List.getElem?_eq_getElem hl]; rfl
    · rw [List.drop_eq_nil_of_le (by (first | lia | omega)), List.getElem?_eq_none (by (first | lia | omega))]; rfl
  refine wpAny_execs_cons (wpAny_If (wpAny_isTrue_value (load_var (s := { s with heap := h3, toks := tk3 }) S3.V (by kernel_rfl!) vD3 (truthy_bytes ?_ ?_)) rfl))
  · rw [List.size_toArray]
    exact Nat.le_trans (List.length_take_le _ _) (by decide)
  cases hc : B.toList[pos]? with
  | some c =>
    rw [e1, hc] at vD3 L3 ⊢
    show wpAny (model Y.prog Y.w) (A.deeper env) (execs [_] env) _ _ { s with heap := h3, toks := tk3 + 1 + 1 }
    have S3' : SSt Y (fdOf 75 P).scope env hid h3 ⟨[(Str.ofString "data", .bytes #[c])], none, true⟩ none := S3.withVars (lkE ⟨by kernel_rfl!, _, vD3, .bytes ..⟩ lkN)
    refine wpAny_execs_cons (wpAny_Return_some (bindP (wpE_sound Ok TO 10 (fdOf 75 P).scope _ _ (fun d => d = .int c.toNat) (A.deeper env) { s with heap := h3, toks := tk3 + 1 + 1 } env (hidO hid none) _ ?_ S3'.V S3'.g (S3'.hidO Ok) ((R.deeper env).le (Nat.le_succ k))) fun v s4 d u r q => ?_))
    · exact eItem rfl (eName (d := .bytes #[c]) (by with_unfolding_all rfl) (eInt (.bytes _ _ _ ⟨by decide, by show 1 ≤ sizeLine; decide⟩ rfl rfl)))
    subst q
    refine Rep.intE r fun _ => ?_
    clear r
    obtain ⟨h4, tk4, rfl, k4, g4⟩ := u
    exact h c hc h4 tk4 _ (fun b o n m e => k4 b o n (kt3 b o n m e)) g4 (let ⟨t, il⟩ := L3; ⟨t, il.at fun o e => k4 pat o patP e⟩)
  | none =>
    rw [e1, hc] at vD3 L3 ⊢
    show wpAny (model Y.prog Y.w) (A.deeper env) (execs [] env) _ _ { s with heap := h3, toks := tk3 + 1 + 1 }
    refine wpAny_execs_nil ?_
    have hv : biVal (Str.ofString "ValueError") = some (.type "ValueError") := by decide +kernel
    refine wpAny_execs_cons (wpAny_Raise_call F.excCall_ValueError F.excRaise_ValueError hhA rfl (load_bi (s := { s with heap := h3, toks := tk3 + 1 + 1 }) Ok S3.V S3.g hgV (by kernel_rfl!) hv ⟨rfl, evalArgs_plain (spliced_more (wpAny_Constant_str (spliced_none ⟨rfl, by show 1 ≤ sizeLine; decide, fun h5 e hm => ?_⟩)) rfl)⟩))
    have Fm3 : FrOk Y h3 (env :: l) := frok_me BF Fl3 S3
    refine wpAny_leaves_madeW (base := hideAll h3 (frs (env :: l))) (h := h3) (Around.frames_deeper hfr) eF (fun b o q => of_hideAll _ q) (Fm3.fun Ok fun b hb => hideAll_none _ hb) ⟨hm.keeps, hm.new, hm.there⟩ fun h6 t fl6 tup fr6 u6 => ?_
    have L3' : AtPos h3 pat pos := L3
    refine hE hc h3 h6 _ _ e ⟨kt3, S3.g, env :: l, t, Fm3, fun b hb => ?_, fl6, tup, fr6, fun b o q hn => u6 b o (hm.keeps b o q) hn⟩ L3'
    rw [frs_cons eF] at hb
    rcases List.mem_cons.mp hb with q | q
    · rw [q]; exact .inr fL
    · exact .inl q
end
end Mine
end
section
set_option tactic.hygienic false
open PySem PySem.W PySem.Calls PyProof.Rows Builtin.ObjectAttr
namespace Mine
theorem TapeAt.kpt {Y : Sys} (Ok : SysOk Y) {P : Params} {h h' : Heap} {pt pat : Addr} {B : Array UInt8} {pos : Nat} (g : Y.G h) (x : TapeAt Y P h pt pat B) (L : AtPos h pat pos) (k : KpT Y pat h h') : TapeAt Y P h' pt pat B := by
  obtain ⟨ps, hP⟩ := Ok.tab h g
  obtain ⟨tl, ol, el, cl, nl, dl⟩ := L
  have key : ∀ b o, h.get? b = some o → (∀ ps, o ≠ tabObj ps) → (∀ vs n, o.data ≠ .seq vs n) → h'.get? b = some o := fun b o e h1 h2 => k b o (fun q => by
    rw [q, hP] at e; exact h1 ps (Option.some.inj e).symm) (fun q => by
    rw [q, el] at e; exact h2 _ nl (by rw [← Option.some.inj e]; exact dl)) e
  have keyC : ∀ c v, h.IsCell c v → h'.IsCell c v := fun c v ⟨o, e, d⟩ => ⟨o, key c o e (fun ps q => by rw [q] at d; cases d) (fun vs n q => by rw [d] at q; cases q), d⟩
  obtain ⟨dx, od, pf, q1, q2, q3, RA⟩ := x.ex
  obtain ⟨o, qual, co, ca, doc, pm, code, ct, tB, ho, hfd, hc, c1, c2, b1, b2, b3, b4⟩ := RA.ex
  refine ⟨dx, od, pf, key _ _ q1 (fun ps q => by cases q) (fun vs n q => by cases q), key _ _ q2 (fun ps q => ?_) (fun vs n q => ?_), q3, o, qual, co, ca, doc, pm, code, ct, tB, key _ _ ho (fun ps q => by rw [q] at hfd; cases hfd) (fun vs n q => by rw [hfd] at q; cases q), hfd, ?_, keyC _ _ c1, keyC _ _ c2, b1, b2, b3, b4⟩
  · rw [q] at q3; cases q3
  · unfold lookIn at q3; rw [q] at q3; cases q3
  · obtain ⟨c, oc, vs, t, e1, e2, e3, e4⟩ := hc
    refine ⟨c, oc, vs, t, e1, k c oc (fun q => b4 (by rw [e1, q])) (fun q => ?_) e2, e3, e4⟩
    rw [q, el] at e2
    rw [Option.some.inj e2, e3] at dl
    cases dl
theorem evalArgs_one {M : Model} {A : Around} {E : Value → Shared → Prop} {s : Shared} {env : Env} {f : Value} {cpos : Pos} {e : Expr} {Q : Args → Shared → Prop} (h : wpAny M A (eval e env) (fun v s₁ => Q ⟨[v], []⟩ s₁) E s) (hst : starEach [e] env = [(false, eval e env)]) :
    wpAny M A (evalArgs f true (backTo cpos (starEach [e] env)) []) Q E s := by
  have h' : wpAny M A (spliced (backTo cpos (starEach [e] env))) (fun vs s₁ => Q ⟨vs, []⟩ s₁) E s := spliced_more (e := e) (rest := []) (wpAny_mono h (fun v s₁ q => spliced_none q) fun _ _ x => x) hst
  rw [hst] at h' ⊢
  exact evalArgs_plain h'
section
variable {Y : Sys} {T : Tab} {k : Nat}
set_option tactic.hygienic true in
theorem bytes1_ok (Ok : SysOk Y) (TO : TabOk Y k T) (hlen : T.F (Str.ofString "len") = none) (P : Params) (KIn : ∀ h, Y.G h → (hd.heap_39 P).In h) (N : FnAt Y 75 (fdOf 75 P) (bodyOf 75 P) [Str.ofString "f"]) (N2 : FnAt Y 82 (fdOf 82 P) (bodyOf 82 P) [Str.ofString "f"])
    (mg75 : Y.mg (Str.ofString "read_uint1") = some (.ref 75))
    {A : Around} {s : Shared} {hid : Addr → Bool} {l : List Env} {pt pat : Addr} {B : Array UInt8} {pos : Nat} {Q : Value → Shared → Prop} {E : Value → Shared → Prop}
    (R : Room (k + 1 + 1 + 1) A) (hfr : A.frames = some l) (Fl : FrOk Y s.heap l) (g : Y.G s.heap) (H : HidOk Y hid s.heap) (TA : TapeAt Y P s.heap pt pat B) (L : AtPos s.heap pat pos) (bp : Y.base.get? pat = none) (hp : hid pat = false) (hsz : B.size ≤ 100) (hpos : pos ≤ B.size)
    (h : ∀ c, B.toList[pos]? = some c → c.toNat ≤ B.size - (pos + 1) → ∀ h' tk t', KpT Y pat s.heap h' → Y.G h' → AtPos h' pat (pos + 1 + c.toNat) → Q (.bytes ((B.toList.drop (pos + 1)).take c.toNat).toArray t') { s with heap := h', toks := tk })
    (hE : B.toList[pos]? = none → ∀ hE h' tk t' e, Flies Y l pat s.heap [.str wU t'] hE e h' → AtPos hE pat pos → E (.ref e) { s with heap := h', toks := tk })
    (hE2 : ∀ c, B.toList[pos]? = some c → B.size - (pos + 1) < c.toNat → ∃ x, T.M fmtS [.int c.toNat, .int (B.size - (pos + 1) : Nat)] = some x ∧ ∀ hE h' tk t' e, Flies Y l pat s.heap [.str x t'] hE e h' → AtPos hE pat B.size → E (.ref e) { s with heap := h', toks := tk }) :
    wpAny (model Y.prog Y.w) A (call (.ref 82) [.ref pt]) Q E s := by
  refine fn_raw Ok N2 R g H rfl fun env s₁ sm kp fL fC Fr eF S0 hv => ?_
  have BF := bfr_of Ok Fl g Fr eF fL fC
  obtain ⟨h1, tk1, rfl⟩ := sm
  change (∀ b o, s.heap.get? b = some o → h1.get? b = some o) at kp
  have hvF := (hv (Str.ofString "f") (.ref pt) (.head _)).2
  have kt1 : KpT Y pat s.heap h1 := fun b o _ _ e => kp b o e
  have TA1 := TA.kpt Ok g L kt1
  have L1 : AtPos h1 pat pos := let ⟨t, il⟩ := L; ⟨t, il.at fun o e => kp pat o e⟩
  have hhA : (A.deeper env).handled = none := (R.deeper env).h
  have stN : (fdOf 82 P).scope.names.lookup (Str.ofString "n") = some .local := by with_unfolding_all rfl
  have stD : (fdOf 82 P).scope.names.lookup (Str.ofString "data") = some .local := by with_unfolding_all rfl
  have hgV : globalKind (fdOf 82 P).scope (Str.ofString "ValueError") = true := by with_unfolding_all rfl
  have hgU : globalKind (fdOf 82 P).scope (Str.ofString "read_uint1") = true := by with_unfolding_all rfl
  have hfn : ∀ hh, Y.G hh → ∃ oc od fd sl, hh.get? 75 = some ⟨oc, od, .func fd, sl⟩ := fun hh gh => by
    obtain ⟨o, e, d, _⟩ := N.at_ hh gh
    exact ⟨o.cls, o.dict, _, o.slots, by rw [e, ← d]⟩
  have Fl1 : FrOk Y h1 l := Fl.keeps fun b o _ e => kp b o e
  have Fm1 : FrOk Y h1 (env :: l) := frok_me BF Fl1 S0
  conv in (bodyOf 82 P) => whnf
  refine wpAny_execs_cons (wpAny_Assign_Name (wpAny_Call_NameR (load_glob (s := { s with heap := h1, toks := tk1 }) Ok S0.V S0.g hgU (by kernel_rfl!) mg75 (callWith_F (hfn _ S0.g) (spliced_more (load_var (s := { s with heap := h1, toks := tk1 }) S0.V (by kernel_rfl!) hvF (spliced_none ⟨hfn _ S0.g, uint1_ok (l := env :: l) (s := { s with heap := h1, toks := tk1 }) Ok TO hlen P KIn N (R.deeper env) (Around.frames_deeper hfr) Fm1 S0.g S0.H TA1 L1 bp hp hsz hpos (fun c hc h2 tk2 t2 k2 g2 L2 => ?_) fun hc hE1 h2 tk2 t2 e fl1 LE => ?_⟩)) rfl) rfl rfl))) rfl)
  · have live_ne : ∀ b o, s.heap.get? b = some o → b ≠ env.locals := fun b o e => by rintro rfl; rw [fL] at e; cases e
    have patL : pat ≠ env.locals := let ⟨o, e⟩ := L.live; live_ne pat o e
    have patP : pat ≠ Y.P := let ⟨t, il⟩ := L; list_notP Ok g il
    obtain ⟨S2, v2⟩ := raw_kpt (pat := pat) Ok S0 k2 g2 L1.dat L2.live
    have TA2 := TA1.kpt Ok S0.g L1 k2
    have hc' : c.toNat < 256 := c.toNat_lt
    have hlt : pos < B.size := by
      have := (List.getElem?_eq_some_iff.mp hc).1
      simpa using this
    refine raw_storeL (s := { s with heap := h2, toks := tk2 }) Ok S2 stN fun h3 tk3 S3 kk3 vN3 vo3 => ?_
    have kt3 : KpT Y pat s.heap h3 := fun b o n m e => kk3 b o (live_ne b o e) (k2 b o n m (kp b o e))
    have TA3 := TA.kpt Ok g L kt3
    have L3 : AtPos h3 pat (pos + 1) := let ⟨t, il⟩ := L2; ⟨t, il.at fun o e => kk3 pat o patL e⟩
    have vF3 := vo3 _ _ (ne_of_beq_false (by kernel_rfl!)) (v2 _ _ hvF)
    refine wpAny_execs_cons (wpAny_Assert hhA (wpAny_isTrue_Compare1 (load_var (s := { s with heap := h3, toks := tk3 }) S3.V (by kernel_rfl!) vN3 (wpAny_Constant_int (PySem.P.ge_int (wpAny_truthy_bool ?_))))))
    have dge : decide (((c.toNat : Nat) : Int) ≥ 0) = true := decide_eq_true (Int.natCast_nonneg _)
    rw [dge]
    refine wpAny_execs_cons (wpAny_Assign_Name (tape_read (n := c.toNat) (s := { s with heap := h3, toks := _ }) Ok TO hlen P KIn ((R.deeper env).le (Nat.le_succ _)) S3 (by kernel_rfl!) vF3 TA3 L3 bp hp hsz (by (first | lia | omega)) (by (first | lia | omega)) (fun s' hs' R' hR => load_var (s := s') (hid := hid) (ρ := []) (sc := (fdOf 82 P).scope) (by rw [hs']; exact S3.V) (by kernel_rfl!) (by rw [hs']; exact vN3) (hR t2 s'.toks)) rfl rfl fun h4 tk4 t4 k4 g4 L4 => ?_) rfl)
    obtain ⟨S4, v4⟩ := raw_kpt (pat := pat) Ok S3 k4 g4 L3.dat L4.live
    refine raw_storeL (s := { s with heap := h4, toks := tk4 }) Ok S4 stD fun h5 tk5 S5 kk5 vD5 vo5 => ?_
    have kt5 : KpT Y pat s.heap h5 := fun b o n m e => kk5 b o (live_ne b o e) (k4 b o n m (kt3 b o n m e))
    have L5 : AtPos h5 pat (pos + 1 + ((B.toList.drop (pos + 1)).take c.toNat).length) := let ⟨t, il⟩ := L4; ⟨t, il.at fun o e => kk5 pat o patL e⟩
    have vN5 := vo5 _ _ (ne_of_beq_false (by kernel_rfl!)) (v4 _ _ vN3)
    have hld : ((B.toList.drop (pos + 1)).take c.toNat).length = min c.toNat (B.size - (pos + 1)) := by
      rw [List.length_take, List.length_drop, Array.length_toList]
    generalize hD : (B.toList.drop (pos + 1)).take c.toNat = D5 at vD5 L5 hld
    have h0' := h c hc
    have h2' := hE2 c hc
    rw [hD] at h0'
    have hszD : D5.length ≤ sizeLine := Nat.le_trans (by (first | lia | omega) : D5.length ≤ 100) (by decide)
    have S5' : SSt Y (fdOf 82 P).scope env hid h5 ⟨[(Str.ofString "data", .bytes D5.toArray), (Str.ofString "n", .int c.toNat)], none, true⟩ none := S5.withVars (lkE ⟨by kernel_rfl!, _, vD5, .bytes ..⟩ (lkE ⟨by kernel_rfl!, _, vN5, .int ..⟩ lkN))
    have hlenW : ∀ {m : Nat} {Q : D → Prop} {pa pb pc : Pos}, Q (.int D5.length) → wpE T (m + 2) (fdOf 82 P).scope [(Str.ofString "data", .bytes D5.toArray), (Str.ofString "n", .int c.toNat)] (.Call (.Name (Str.ofString "len") pa) [.Name (Str.ofString "data") pb] [] pc) Q := fun hq =>
      eBi1 (by with_unfolding_all rfl) hlen rfl (by decide +kernel) (eName (d := .bytes D5.toArray) (by with_unfolding_all rfl) (rLen (n := D5.length) (by show some (List.toArray _).size = _; rw [List.size_toArray]) hszD hq))
    refine wpAny_execs_cons (wpAny_mono ((wpS_sound Ok TO 10).1 10 (Nat.le_refl _) (fdOf 82 P).scope _ ⟨[(Str.ofString "data", .bytes D5.toArray), (Str.ofString "n", .int c.toNat)], none, true⟩ (fun fl σ' => (fl = .ret (.bytes D5.toArray) ∧ D5.length = c.toNat) ∨ ((fl = .next ∧ σ' = ⟨[(Str.ofString "data", .bytes D5.toArray), (Str.ofString "n", .int c.toNat)], none, true⟩) ∧ D5.length ≠ c.toNat)) (A.deeper env) { s with heap := h5, toks := tk5 } env hid none _ ?_ Fr S5' ((R.deeper env).le (by (first | lia | omega)))) (fun fl s6 q => ?_) fun _ _ x => x)
    · refine sIf (tCmp rfl (hlenW (eName (d := .int c.toNat) (by with_unfolding_all rfl) (cEqI ?_))))
      by_cases he : D5.length = c.toNat
      · have e : (((D5.length : Nat) : Int) == ((c.toNat : Nat) : Int)) = true := beq_iff_eq.mpr (congrArg Int.ofNat he)
        rw [e]
        exact condT (ssCons (sRet (eName (d := .bytes D5.toArray) (by with_unfolding_all rfl) (thRet (.inl ⟨rfl, he⟩)))))
      · have e : (((D5.length : Nat) : Int) == ((c.toNat : Nat) : Int)) = false := beq_eq_false_iff_ne.mpr fun h => he (Int.ofNat.inj h)
        rw [e]
        exact condF (ssNil (.inr ⟨⟨rfl, rfl⟩, he⟩))
    obtain ⟨h6, tk6, σ6, O6, f, rfl, kx, lv, S6, cx, fr, q⟩ := q
    have cne : ∀ b o, s.heap.get? b = some o → ∀ z, env.cells.lookup z ≠ some b := fun b o e z hz => by rw [fC z b hz] at e; cases e
    have kt6 : KpT Y pat s.heap h6 := fun b o n m e => kx b o n ⟨live_ne b o e, cne b o e, by simp⟩ (kt5 b o n m e)
    have L6 : AtPos h6 pat (pos + 1 + D5.length) := let ⟨t, il⟩ := L5; ⟨t, il.at fun o e => kx pat o patP ⟨patL, fun z => let ⟨o', e'⟩ := L.live; cne pat o' e' z, by simp⟩ e⟩
    rcases q with ⟨rfl, he⟩ | ⟨⟨rfl, rfl⟩, he⟩
    · cases fl <;> first | exact fr.elim | skip
      rename_i v
      have fr' : Rep (vis h6 hid) v (.bytes D5.toArray) := fr
      refine Rep.bytesE fr' fun _ => ?_
      rw [he] at L6
      exact h0' (by (first | lia | omega)) h6 tk6 _ kt6 S6.g L6
    · cases fl <;> first | exact fr.elim | skip
      obtain ⟨x, hM, hQ⟩ := h2' (by (first | lia | omega))
      have hld' : D5.length = B.size - (pos + 1) := by (first | lia | omega)
      have hv : biVal (Str.ofString "ValueError") = some (.type "ValueError") := by decide +kernel
      refine wpAny_execs_cons (wpAny_Raise_call F.excCall_ValueError F.excRaise_ValueError hhA rfl (load_bi (s := { s with heap := h6, toks := tk6 }) Ok S6.V S6.g hgV (by kernel_rfl!) hv ⟨rfl, evalArgs_one ?_ rfl⟩))
      refine (bindP (wpE_sound Ok TO 10 (fdOf 82 P).scope _ _ (fun d => d = .str x) (A.deeper env) { s with heap := h6, toks := tk6 } env (hidO hid O6) _ ?_ S6.V S6.g (S6.hidO Ok) ((R.deeper env).le (by (first | lia | omega)))) fun v s7 d u r q => ?_)
      · refine eBin (eStr (eTuple (esCons rfl (eName (d := .int c.toNat) (by with_unfolding_all rfl) (esCons rfl (hlenW (esNil ⟨by show 2 ≤ sizeLine; decide, ?_⟩)))))))
        rw [hld']
        exact bFmt (f := fmtS) hM rfl
      subst q
      refine Rep.strE r fun _ => ?_
      clear r
      obtain ⟨h7, tk7, rfl, k7, g7⟩ := u
      refine ⟨rfl, by show 1 ≤ sizeLine; decide, fun h8 e hm => ?_⟩
      have S7 := S6.up Ok k7 g7
      have kt7 : KpT Y pat s.heap h7 := fun b o n m e => k7 b o n (kt6 b o n m e)
      have L7 : AtPos h7 pat B.size := by
        have e : pos + 1 + D5.length = B.size := by (first | lia | omega)
        rw [e] at L6
        obtain ⟨t, il⟩ := L6
        exact ⟨t, il.at fun o e => k7 pat o patP e⟩
      have Fl7 : FrOk Y h7 l := Fl.keeps fun b o hb e => kt7 b o (BF.apart b hb).2.2 (fun q => by
        subst q
        obtain ⟨o', e', d⟩ := L.dat
        rw [Fl.isDat hb o' e'] at d; cases d) e
      have Fm7 : FrOk Y h7 (env :: l) := frok_me BF Fl7 S7
      refine wpAny_leaves_madeW (base := hideAll h7 (frs (env :: l))) (h := h7) (Around.frames_deeper hfr) eF (fun b o q => of_hideAll _ q) (Fm7.fun Ok fun b hb => hideAll_none _ hb) ⟨hm.keeps, hm.new, hm.there⟩ fun h9 t fl9 tup fr9 u9 => ?_
      refine hQ h7 h9 _ _ e ⟨kt7, g7, env :: l, t, Fm7, fun b hb => ?_, fl9, tup, fr9, fun b o q hn => u9 b o (hm.keeps b o q) hn⟩ L7
      rw [frs_cons eF] at hb
      rcases List.mem_cons.mp hb with q | q
      · rw [q]; exact .inr fL
      · exact .inl q
  · -- read_uint1's refusal passes
    obtain ⟨lc, t, FC, cl, fly, tup, fr, up⟩ := fl1.ex
    refine wpAny_leaves_onW (s := { s with heap := h2, toks := tk2 }) (Around.frames_deeper hfr) eF fly fun h3 fly3 up3 => ?_
    refine hE hc hE1 h3 _ t2 e ⟨kt1.trans fl1.kp, fl1.g, lc, t, FC, fun b hb => ?_, fly3, tup.of_slots up3, fr, up.trans up3⟩ LE
    rcases cl b hb with q | q
    · rw [frs_cons eF] at q
      rcases List.mem_cons.mp q with q | q
      · rw [q]; exact .inr fL
      · exact .inl q
    · refine .inr ?_
      cases q2 : s.heap.get? b with
      | none => rfl
      | some o => change h1.get? b = none at q; rw [kp b o q2] at q; cases q
end
end Mine
end
section
set_option tactic.hygienic false
open PySem PySem.W PySem.Calls PyProof.Rows Builtin Builtin.ObjectAttr
namespace Mine
section
variable {prog : Program} {w : World} {A : Around} {K : Frag} {C x : Addr} {s : Shared} {R : Result → Shared → Prop}
/-- what is stored by name in the dict of an object, the heap told exactly -/
theorem osa_exact {ox od od' : Obj} {dx : Addr} {name : Str} {tk : Tok} {v : Value} {es : List DictEntry} {n : Nat} (X : K.In s.heap)
    (I : InstAt s.heap x ox C (some od)) (hd : ox.dict = some dx) (hp : plainOver K C = true) (ht : takerIn K C name = some none) (hh : (clsIn K C).any (·.hasDict) = true)
    (hl : (lookIn name od).isSome = true) (e : Obj.putName name (PyData.keyHash w.params name) (.str name s.toks) v od = od') (e' : od'.data = .dict es.toArray n) (hz : es.length ≤ 1000)
    (h : ∀ h', h'.get? dx = some od' → (∀ b, b ≠ dx → h'.get? b = s.heap.get? b) → R (.ok (.ret .none)) { s with heap := h', toks := s.toks + 1 }) :
    codeAny (model prog w) A (.call (.builtin "object.__setattr__") ⟨[.ref x, .str name tk, v], []⟩) R s := by
  refine osa_open X I hp ht fun b => ?_
  obtain ⟨cd, hc, hd'⟩ := any_some hh
  obtain ⟨hx, hcl, hn, D⟩ := I
  obtain ⟨oc, odi, oda, osl⟩ := ox
  dsimp only at hcl hd D
  subst hcl hd
  have D : s.heap.get? dx = some od := D
  have hfr : od'.isFreed = false := by obtain ⟨_, _, dd, _⟩ := od'; cases e'; rfl
  have D' : (s.heap.update dx (Obj.putName name (PyData.keyHash w.params name) (.str name s.toks) v)).get? dx = some od' := e ▸ Heap.get?_update_self _ D (e ▸ hfr)
  refine wpAny_bind (wpAny_pure (wpAny_bind (wpAny_bind (wpAny_loadPart hx (wpAny_bind ((looks_clsIn X hc).here ?_))))))
  rw [hd']
  refine wpAny_pure (a := some dx) (wpAny_bind (wpAny_pure (wpAny_bind ?_)))
  unfold nsSet
  refine wpAny_bind (wpAny_bind (wpAny_askSetting (wpAny_pure (wpAny_bind (wpAny_mkText (wpAny_bind (wpAny_loadPart D ?_)))))))
  obtain ⟨es₀, n₀, q⟩ : ∃ es₀ n₀, od.data = .dict es₀ n₀ := by
    cases q : od.data with
    | dict es₀ n₀ => exact ⟨_, _, rfl⟩
    | _ => unfold lookIn at hl; rw [q] at hl; cases hl
  unfold lookIn at hl
  rw [q] at hl
  rw [q]
  dsimp only
  have c : (!es₀.any (·.key.isStr name) && es₀.any (·.refKey)) = false := by
    rw [← Array.any_toList, ← Array.any_toList]
    dsimp only at hl
    cases he : es₀.toList.find? (·.key.isStr name) with
    | some en => rw [List.any_eq_true.mpr ⟨en, List.mem_of_find?_eq_some he, List.find?_some he⟩]; rfl
    | none =>
      rw [he] at hl
      cases z : es₀.toList.any (·.refKey) with
      | false => rw [Bool.and_false]
      | true => rw [z] at hl; cases hl
  rw [aRefKeyMayBeTheName_at, c]
  refine wpAny_updatePart D ?_
  refine wpAny_bind (wpAny_lookBehind D' (by rw [e']; exact pastItsLine_dict (by rw [List.size_toArray, sizeLine_eq]; omega)) ?_)
  exact wpAny_pure (h _ D' fun b hb => Heap.get?_update_other _ _ (Ne.symm hb))
end
end Mine
end
section
set_option tactic.hygienic false
open PySem PySem.W PySem.Calls PyProof.Rows Builtin Builtin.ObjectAttr
namespace Mine
section
variable {Y : Sys} {T : Tab} {k : Nat}
noncomputable abbrev dictV (hs : Int) (t : Tok) (v : Value) : Obj := { cls := .type "dict", data := .dict #[⟨hs, .str (Str.ofString "value") t, v⟩] 1 }
end
end Mine
end
section
set_option tactic.hygienic false
open PySem PySem.W PySem.Calls PyProof.Rows Builtin Builtin.ObjectAttr
namespace Mine
theorem clo_rd (P : Params) {env : Env} {co ca : Addr} (hO : env.cells.lookup (Str.ofString "octets") = some co) (hA : env.cells.lookup (Str.ofString "at") = some ca) :
    closureFor (rdScope P) env = pure [(Str.ofString "octets", co), (Str.ofString "at", ca)] := by
  have en : (rdScope P).names = [(Str.ofString "count", NameKind.local), (Str.ofString "piece", NameKind.local), (Str.ofString "at", NameKind.free), (Str.ofString "octets", NameKind.free), (Str.ofString "len", NameKind.globalImplicit)] := by with_unfolding_all rfl
  have c1 : cellOf env (Str.ofString "octets") = pure co := by unfold cellOf; rw [hO]
  have c2 : cellOf env (Str.ofString "at") = pure ca := by unfold cellOf; rw [hA]
  unfold closureFor
  rw [en]
  simp only [List.forIn_cons, c1, c2]
  rfl
end Mine
end
section
set_option tactic.hygienic false
open PySem PySem.W PySem.Calls PyProof.Rows
namespace Mine
/-- what a def's frame begins with, its arguments told by their values -/
theorem fn_raw2 {Y : Sys} (Ok : SysOk Y) {a : Addr} {fd : FuncData} {body : List Stmt} {names : List Str} (N : FnAt Y a fd body names) {A : Around} {s : Shared} {hid : Addr → Bool} {args : List Value} {Q : Value → Shared → Prop} {E : Value → Shared → Prop}
    {k : Nat} (R : Room (k + 1) A) (g : Y.G s.heap) (H : HidOk Y hid s.heap) (hlen : args.length = names.length)
    (h : ∀ (env : Env) (s₁ : Shared), (∃ h tk, s₁ = { s with heap := h, toks := tk }) → (∀ b o, s.heap.get? b = some o → s₁.heap.get? b = some o) → s.heap.get? env.locals = none → (∀ z c, env.cells.lookup z = some c → s.heap.get? c = none) → SFr Y env → env.frame = some env.locals → (∃ L, env = callEnvC fd L a) →
      SSt Y fd.scope env hid s₁.heap ⟨[], none, true⟩ none → (∀ x v, (x, v) ∈ names.zip args → (x == ("__debug__" : Str)) = false ∧ VarAt env s₁.heap x v) →
      wpAny (model Y.prog Y.w) (A.deeper env) (execs body env) (fun f s' => Q (match f with | .ret v => v | _ => .none) s') (fun e s' => wpAny (model Y.prog Y.w) (A.deeper env) (leaving env e) (fun _ s'' => E e s'') (fun e' s'' => E e' s'') s') s₁) :
    wpAny (model Y.prog Y.w) A (call (.ref a) args) Q E s := by
  obtain ⟨o, ho, hd, hc⟩ := N.at_ _ g
  have hzf := zip_fst (xs := names) (ys := args) hlen
  refine wpAny_call (codeAny_call_cells (by have := R.d; (first | lia | omega)) ho hd (Ok.nolim _ g) hc N.hbody (N.hbind args hlen) N.hclo (fun x hx => ?_) (fun s₁ X => ?_) N.hco N.hgen N.hk)
  · have hm : x.1 ∈ names := (List.of_mem_zip hx).1
    have := List.all_eq_true.mp N.st _ hm
    unfold storable at this
    simp only [Bool.and_eq_true, Bool.or_eq_true, beq_iff_eq] at this
    rcases this.1 with q | q
    · exact .inl q
    · exact .inr ⟨q, cellsFrom_has _ _ _ _ q⟩
  · generalize he : callEnvC fd s.heap.objs.size a = env at X ⊢
    have eL : env.locals = s.heap.objs.size := by rw [← he]; rfl
    have eF : env.frame = some env.locals := by rw [← he]; rfl
    have eC : env.cells = cellsFrom (s.heap.objs.size + 1) fd.scope.names [] := by rw [← he]; rfl
    have eS : env.scope = fd.scope := by rw [← he]; rfl
    have ek : ∀ x, env.kindOf x = fd.scope.names.lookup x := fun x => by rw [← he]; rfl
    have fL : s.heap.get? env.locals = none := by rw [eL]; exact get_size _
    have fC : ∀ z c, env.cells.lookup z = some c → s.heap.get? c = none := fun z c e => by
      rw [eC] at e
      have hm := mem_of_lookup e
      rcases cellsFrom_mem _ _ _ _ _ hm with q | q
      · cases q
      · cases e2 : s.heap.get? c with
        | none => rfl
        | some o => exact absurd (Heap.lt_size e2) (Nat.not_lt.mpr (Nat.le_of_succ_le q))
    have kp := X.toInCall.keep
    have g1 := Ok.mono _ _ g kp
    have H1 : HidOk Y hid s₁.heap := H.up (.of kp) (let ⟨_, e⟩ := Ok.tab _ g1; ⟨_, e⟩)
    have Fr : SFr Y env := by
      refine ⟨fun x y c e1 e2 => ?_, fun x c e => Ok.fresh _ _ g (fC x c e)⟩
      have m1 := mem_of_lookup e1
      have m2 := mem_of_lookup e2
      have ap := X.apart
      by_cases hxy : x = y
      · exact hxy
      · exfalso
        have key : ∀ (cs : List (Str × Addr)), cs.Pairwise (fun x y => x.2 ≠ y.2) → (x, c) ∈ cs → (y, c) ∈ cs → False := by
          intro cs hp h1 h2
          induction cs with
          | nil => cases h1
          | cons q r ih =>
            cases hp with
            | cons hq hr =>
              rcases List.mem_cons.mp h1 with h1 | h1
              · rcases List.mem_cons.mp h2 with h2 | h2
                · exact hxy (congrArg Prod.fst (h1.trans h2.symm))
                · exact hq _ h2 (by rw [← h1])
              · rcases List.mem_cons.mp h2 with h2 | h2
                · exact hq _ h1 (by rw [← h2])
                · exact ih hr h1 h2
        exact key _ ap m1 m2
    have V : EnvOk Y fd.scope env s₁.heap hid [] := by
      refine ⟨by rw [eS]; exact N.hk, eS, by rw [← he]; exact N.hglob, by rw [← he]; exact N.hbui, Ok.fresh _ _ g fL, fun x hx => ⟨?_, ?_⟩, fun z c e => ⟨_, X.cell z c e⟩, fun x d hx => by cases hx⟩
      · have := List.all_eq_true.mp N.ncd _ (mem_of_lookup hx)
        simpa using this
      · rw [eC]; exact Option.isSome_iff_exists.mp (cellsFrom_has _ _ _ _ hx)
    refine wpAny_mono (h env s₁ X.toInCall.same kp fL fC Fr eF ⟨_, he.symm⟩ ⟨V, g1, H1, ⟨_, X.toInCall.ns⟩, trivial⟩ fun x v hv => ?_) (fun f s' q => q) fun e s' q => q
    have hm : x ∈ names := (List.of_mem_zip hv).1
    have hst := List.all_eq_true.mp N.st _ hm
    unfold storable at hst
    simp only [Bool.and_eq_true, Bool.or_eq_true, beq_iff_eq, Bool.not_eq_true'] at hst
    refine ⟨hst.2, ?_⟩
    rcases hst.1 with q | q
    · have kl : env.kindOf x = some .local := by rw [ek]; exact q
      exact .inl ⟨kl, _, X.toInCall.ns, bindL_in _ _ _ (by rw [hzf]; exact N.nd) hv kl⟩
    · have kc : env.kindOf x = some .cell := by rw [ek]; exact q
      obtain ⟨c, hc⟩ := Option.isSome_iff_exists.mp (cellsFrom_has fd.scope.names (s.heap.objs.size + 1) [] x q)
      rw [← eC] at hc
      refine .inr ⟨.inl kc, ?_, c, hc, ?_⟩
      · have := List.all_eq_true.mp N.ncd _ (mem_of_lookup q)
        simpa using this
      · have := X.cell x c hc
        rw [bindC_in _ _ _ (by rw [hzf]; exact N.nd) hv kc] at this
        exact this

theorem fn_rawC {Y : Sys} (Ok : SysOk Y) {a : Addr} {fd : FuncData} {body : List Stmt} {names : List Str} (N : FnAt Y a fd body names) {A : Around} {s : Shared} {hid : Addr → Bool} {args : List Value} {RR : Result → Shared → Prop}
    {k : Nat} (R : Room (k + 1) A) (g : Y.G s.heap) (H : HidOk Y hid s.heap) (hlen : args.length = names.length)
    (h : ∀ (env : Env) (s₁ : Shared), (∃ h tk, s₁ = { s with heap := h, toks := tk }) → (∀ b o, s.heap.get? b = some o → s₁.heap.get? b = some o) → s.heap.get? env.locals = none → (∀ z c, env.cells.lookup z = some c → s.heap.get? c = none) → SFr Y env → env.frame = some env.locals → (∃ L, env = callEnvC fd L a) →
      SSt Y fd.scope env hid s₁.heap ⟨[], none, true⟩ none → (∀ x v, (x, v) ∈ names.zip args → (x == ("__debug__" : Str)) = false ∧ VarAt env s₁.heap x v) →
      wpAny (model Y.prog Y.w) (A.deeper env) (execs body env) (fun f s' => RR (.ok (.ret (match f with | .ret v => v | _ => .none))) s') (fun e s' => wpAny (model Y.prog Y.w) (A.deeper env) (leaving env e) (fun _ s'' => RR (.error e) s'') (fun e' s'' => RR (.error e') s'') s') s₁) :
    codeAny (model Y.prog Y.w) A (.call (.ref a) ⟨args, []⟩) RR s := by
  obtain ⟨o, ho, hd, hc⟩ := N.at_ _ g
  have hzf := zip_fst (xs := names) (ys := args) hlen
  refine (codeAny_call_cells (by have := R.d; omega) ho hd (Ok.nolim _ g) hc N.hbody (N.hbind args hlen) N.hclo (fun x hx => ?_) (fun s₁ X => ?_) N.hco N.hgen N.hk)
  · have hm : x.1 ∈ names := (List.of_mem_zip hx).1
    have := List.all_eq_true.mp N.st _ hm
    unfold storable at this
    simp only [Bool.and_eq_true, Bool.or_eq_true, beq_iff_eq] at this
    rcases this.1 with q | q
    · exact .inl q
    · exact .inr ⟨q, cellsFrom_has _ _ _ _ q⟩
  · generalize he : callEnvC fd s.heap.objs.size a = env at X ⊢
    have eL : env.locals = s.heap.objs.size := by rw [← he]; rfl
    have eF : env.frame = some env.locals := by rw [← he]; rfl
    have eC : env.cells = cellsFrom (s.heap.objs.size + 1) fd.scope.names [] := by rw [← he]; rfl
    have eS : env.scope = fd.scope := by rw [← he]; rfl
    have ek : ∀ x, env.kindOf x = fd.scope.names.lookup x := fun x => by rw [← he]; rfl
    have fL : s.heap.get? env.locals = none := by rw [eL]; exact get_size _
    have fC : ∀ z c, env.cells.lookup z = some c → s.heap.get? c = none := fun z c e => by
      rw [eC] at e
      have hm := mem_of_lookup e
      rcases cellsFrom_mem _ _ _ _ _ hm with q | q
      · cases q
      · cases e2 : s.heap.get? c with
        | none => rfl
        | some o => exact absurd (Heap.lt_size e2) (Nat.not_lt.mpr (Nat.le_of_succ_le q))
    have kp := X.toInCall.keep
    have g1 := Ok.mono _ _ g kp
    have H1 : HidOk Y hid s₁.heap := H.up (.of kp) (let ⟨_, e⟩ := Ok.tab _ g1; ⟨_, e⟩)
    have Fr : SFr Y env := by
      refine ⟨fun x y c e1 e2 => ?_, fun x c e => Ok.fresh _ _ g (fC x c e)⟩
      have m1 := mem_of_lookup e1
      have m2 := mem_of_lookup e2
      have ap := X.apart
      by_cases hxy : x = y
      · exact hxy
      · exfalso
        have key : ∀ (cs : List (Str × Addr)), cs.Pairwise (fun x y => x.2 ≠ y.2) → (x, c) ∈ cs → (y, c) ∈ cs → False := by
          intro cs hp h1 h2
          induction cs with
          | nil => cases h1
          | cons q r ih =>
            cases hp with
            | cons hq hr =>
              rcases List.mem_cons.mp h1 with h1 | h1
              · rcases List.mem_cons.mp h2 with h2 | h2
                · exact hxy (congrArg Prod.fst (h1.trans h2.symm))
                · exact hq _ h2 (by rw [← h1])
              · rcases List.mem_cons.mp h2 with h2 | h2
                · exact hq _ h1 (by rw [← h2])
                · exact ih hr h1 h2
        exact key _ ap m1 m2
    have V : EnvOk Y fd.scope env s₁.heap hid [] := by
      refine ⟨by rw [eS]; exact N.hk, eS, by rw [← he]; exact N.hglob, by rw [← he]; exact N.hbui, Ok.fresh _ _ g fL, fun x hx => ⟨?_, ?_⟩, fun z c e => ⟨_, X.cell z c e⟩, fun x d hx => by cases hx⟩
      · have := List.all_eq_true.mp N.ncd _ (mem_of_lookup hx)
        simpa using this
      · rw [eC]; exact Option.isSome_iff_exists.mp (cellsFrom_has _ _ _ _ hx)
    refine wpAny_mono (h env s₁ X.toInCall.same kp fL fC Fr eF ⟨_, he.symm⟩ ⟨V, g1, H1, ⟨_, X.toInCall.ns⟩, trivial⟩ fun x v hv => ?_) (fun f s' q => q) fun e s' q => q
    have hm : x ∈ names := (List.of_mem_zip hv).1
    have hst := List.all_eq_true.mp N.st _ hm
    unfold storable at hst
    simp only [Bool.and_eq_true, Bool.or_eq_true, beq_iff_eq, Bool.not_eq_true'] at hst
    refine ⟨hst.2, ?_⟩
    rcases hst.1 with q | q
    · have kl : env.kindOf x = some .local := by rw [ek]; exact q
      exact .inl ⟨kl, _, X.toInCall.ns, bindL_in _ _ _ (by rw [hzf]; exact N.nd) hv kl⟩
    · have kc : env.kindOf x = some .cell := by rw [ek]; exact q
      obtain ⟨c, hc⟩ := Option.isSome_iff_exists.mp (cellsFrom_has fd.scope.names (s.heap.objs.size + 1) [] x q)
      rw [← eC] at hc
      refine .inr ⟨.inl kc, ?_, c, hc, ?_⟩
      · have := List.all_eq_true.mp N.ncd _ (mem_of_lookup q)
        simpa using this
      · have := X.cell x c hc
        rw [bindC_in _ _ _ (by rw [hzf]; exact N.nd) hv kc] at this
        exact this

end Mine
end
section
set_option tactic.hygienic false
open PySem PySem.W PySem.Calls PyProof.Rows Builtin Builtin.ObjectAttr
namespace Mine
noncomputable abbrev qRead : Str := Str.ofString "_law_stream.<locals>._law_read"
noncomputable def TabIs (h : Heap) (ps : Array Value) : Prop := ps = #[] ∨ ∃ c, ps = #[rawInt 76, rawInt 4, .ref c] ∧ h.CodeRec (.ref c) qRead ∧ c ≠ 119
structure StreamOk (Y : Sys) (P : Params) : Prop where
  at_ : Y.P = 119
  kin : ∀ h, Y.G h → (hd.heap_39 P).In h
  code : ∀ h, Y.G h → CodeHd h 123 119
  bui : ∀ h, Y.G h → h.BuiltinsAt Y.mg 119
  tab : ∀ h, Y.G h → ∃ ps, h.get? 119 = some (tabObj ps) ∧ TabIs h ps
  grow : ∀ h h' c, Y.G h → Heap.ExtBut 119 h h' → h'.get? 119 = some (tabObj #[rawInt 76, rawInt 4, .ref c]) → h'.CodeRec (.ref c) qRead → c ≠ 119 → Y.G h'
theorem tri_ok {h : Heap} {ps : Array Value} (t : TabIs h ps) : TriplesOk ps.toList := by
  rcases t with rfl | ⟨c, rfl, _⟩ <;> exact trivial
end Mine
end
section
set_option tactic.hygienic false
open PySem PySem.W PySem.Calls PyProof.Rows Builtin Builtin.ObjectAttr
namespace Mine
theorem k_keep (P : Params) : keepIn (hd.heap_39 P) (.ref 99) = true := by kernel_rfl!
section
variable {Y : Sys} {T : Tab} {k : Nat}
theorem init_okC (Ok : SysOk Y) (P : Params) (KIn : ∀ h, Y.G h → (hd.heap_39 P).In h) (N : FnAt Y 96 (fdOf 96 P) (bodyOf 96 P) [Str.ofString "self", Str.ofString "value"])
    {A : Around} {s : Shared} {hid : Addr → Bool} {x dx : Addr} {v : Value} {RR : Result → Shared → Prop}
    (R : Room (k + 1) A) (g : Y.G s.heap) (H : HidOk Y hid s.heap) (hx : s.heap.get? x = some (instObj 99 dx)) (hdx : s.heap.get? dx = some emptyDict)
    (h : ∀ h' tk hs t, (∀ b o, b ≠ dx → s.heap.get? b = some o → h'.get? b = some o) → h'.get? dx = some (dictV hs t v) → RR (.ok (.ret .none)) { s with heap := h', toks := tk }) :
    codeAny (model Y.prog Y.w) A (.call (.ref 96) ⟨[.ref x, v], []⟩) RR s := by
  refine fn_rawC Ok N R g H rfl fun env s₁ sm kp fL fC Fr eF _ S0 hv => ?_
  obtain ⟨h1, tk1, rfl⟩ := sm
  change (∀ b o, s.heap.get? b = some o → h1.get? b = some o) at kp
  have vS := (hv (Str.ofString "self") (.ref x) (.head _)).2
  have vV := (hv (Str.ofString "value") v (.tail _ (.head _))).2
  have X := KIn _ S0.g
  have I : InstAt h1 x (instObj 99 dx) 99 (some emptyDict) := ⟨kp _ _ hx, rfl, rfl, kp _ _ hdx⟩
  conv in (bodyOf 96 P) => whnf
  refine wpAny_execs_cons (plainObj_wpAny_Assign_Attribute (load_var (s := { s with heap := h1, toks := tk1 }) S0.V (by kernel_rfl!) vV (load_var (s := { s with heap := h1, toks := tk1 }) S0.V (by kernel_rfl!) vS (set_plain (s := { s with heap := h1, toks := tk1 }) X I (k_sa P) (osa_exact (s := { s with heap := h1, toks := tk1 + 1 }) (od' := dictV (PyData.keyHash Y.w.params (Str.ofString "value")) (tk1 + 1) v) (es := [⟨PyData.keyHash Y.w.params (Str.ofString "value"), .str (Str.ofString "value") (tk1 + 1), v⟩]) (n := 1) X I rfl (k_plain P) (k_tval P) (k_dict P) (by kernel_rfl!) (by kernel_rfl!) rfl (by show 1 ≤ 1000; decide) fun h2 e2 k2 => ?_)))) rfl)
  refine wpAny_execs_nil (h h2 _ _ _ (fun b o hb e => ?_) e2)
  rw [k2 b hb]
  exact kp b o e
/-- an _Example is made -/
theorem make_ok (Ok : SysOk Y) (P : Params) (SO : StreamOk Y P) (N : FnAt Y 96 (fdOf 96 P) (bodyOf 96 P) [Str.ofString "self", Str.ofString "value"])
    {A : Around} {s : Shared} {hid : Addr → Bool} {v : Value} {Q : Value → Shared → Prop} {E : Value → Shared → Prop}
    (R : Room (k + 2) A) (g : Y.G s.heap) (H : HidOk Y hid s.heap)
    (h : ∀ h' tk hs t x dx, (∀ b o, s.heap.get? b = some o → h'.get? b = some o) → s.heap.get? x = none → s.heap.get? dx = none → h'.get? x = some (instObj 99 dx) → h'.get? dx = some (dictV hs t v) → Q (.ref x) { s with heap := h', toks := tk }) :
    wpAny (model Y.prog Y.w) A (call (.ref 99) [v]) Q E s := by
  obtain ⟨hh, gn, dr, tk0, os⟩ := s
  have X := SO.kin _ g
  refine wpAny_call (make_core (makes_of X (k_makes P)) (looks_findIn X (k_init P)) (fun self => bind_fn X self (k_initf P)) (.inl rfl) ?_)
  have k1 : ∀ b o, hh.get? b = some o → ((hh.push emptyDict).push (instObj 99 hh.objs.size)).get? b = some o := fun b o e => Heap.get?_push_of_some _ (Heap.get?_push_of_some _ e)
  have f0 : hh.get? hh.objs.size = none := get_size _
  have f1 : hh.get? (hh.objs.size + 1) = none := Heap.get?_none_of_le (Nat.le_succ _)
  have g1 := Ok.mono _ _ g k1
  have hx : ((hh.push emptyDict).push (instObj 99 hh.objs.size)).get? (hh.objs.size + 1) = some (instObj 99 hh.objs.size) := by heap_get
  have hdx : ((hh.push emptyDict).push (instObj 99 hh.objs.size)).get? hh.objs.size = some emptyDict := by heap_get
  refine init_okC (hid := hid) (k := k) (dx := hh.objs.size) Ok P SO.kin N ?_ g1 (H.up (Kp.of k1) (let ⟨_, e⟩ := Ok.tab _ g1; ⟨_, e⟩)) hx hdx fun h' tk hs t kk e => ?_
  · have e1 : (A.under (.builtin "type.__call__" ⟨[.ref 99, v], []⟩)).depth ≤ A.depth + 1 := by
      have hw : (Code.builtin "type.__call__" ⟨[.ref 99, v], []⟩).weight ≤ 1 := by
        first
          | (have e : (Code.builtin "type.__call__" ⟨[.ref 99, v], []⟩).weight = 0 := by kernel_rfl!
             (first | lia | omega))
          | (have e : (Code.builtin "type.__call__" ⟨[.ref 99, v], []⟩).weight = 1 := by kernel_rfl!
             (first | lia | omega))
      exact Nat.add_le_add_left hw _
    have e2 : (A.under (.builtin "type.__call__" ⟨[.ref 99, v], []⟩)).units ≤ A.units + 1 := by first | exact Nat.le_refl _ | exact Nat.le_succ _ | simp [Around.under, Code.cUnits, Code.frames, Code.isFrame]
    refine ⟨R.h, by have := R.d; (first | lia | omega), by have := R.u; (first | lia | omega)⟩
  · exact ⟨rfl, h h' tk hs t _ _ (fun b o e => kk b o (fun q => by rw [q, f0] at e; cases e) (k1 b o e)) f1 f0 (kk _ _ (Nat.succ_ne_self _) hx) e⟩
end
end Mine
end
section
set_option tactic.hygienic false
open PySem PySem.W PySem.Calls PyProof.Rows Builtin Builtin.ObjectAttr
namespace Mine
section
variable {Y : Sys} {T : Tab} {k : Nat}
/-- a change at one object that is neither the frame's own nor a cell of it -/
theorem raw_at {sc : Scope} {env : Env} {hid : Addr → Bool} {dx : Addr} {h h' : Heap} (S : Raw Y sc env hid h) (kk : ∀ b o, b ≠ dx → h.get? b = some o → h'.get? b = some o) (g' : Y.G h') (hL : dx ≠ env.locals) (hC : ∀ z, env.cells.lookup z ≠ some dx) (lv : ∃ o, h'.get? dx = some o) :
    Raw Y sc env hid h' ∧ ∀ x v, VarAt env h x v → VarAt env h' x v := by
  refine ⟨⟨⟨S.V.kind, S.V.sce, S.V.glob, S.V.bui, S.V.baseL, S.V.cells, fun z c e => ?_, fun x d e => by cases e⟩, g', ⟨S.H.p, fun b hb => ?_, S.H.cst⟩, ?_, trivial⟩, fun x v hv => ?_⟩
  · obtain ⟨v, n⟩ := S.V.cellAt z c e
    obtain ⟨o, e2, d2⟩ := id n
    exact ⟨v, o, kk c o (fun q => hC z (q ▸ e)) e2, d2⟩
  · by_cases q : b = dx
    · rw [q]; exact lv
    · obtain ⟨o, e⟩ := S.H.live b hb; exact ⟨o, kk b o q e⟩
  · obtain ⟨m, n⟩ := S.ns; exact ⟨m, n.at' fun o e => kk _ o hL.symm e⟩
  · rcases hv with ⟨q, m, n, hm⟩ | ⟨q, hc, c, e, n⟩
    · exact .inl ⟨q, m, n.at' fun o e => kk _ o hL.symm e, hm⟩
    · obtain ⟨o, e2, d2⟩ := id n
      exact .inr ⟨q, hc, c, e, o, kk c o (fun q => hC x (q ▸ e)) e2, d2⟩
noncomputable abbrev dictVR (hs : Int) (t : Tok) (v : Value) (hs' : Int) (t' : Tok) (w : Value) : Obj := { cls := .type "dict", data := .dict #[⟨hs, .str (Str.ofString "value") t, v⟩, ⟨hs', .str (Str.ofString "read") t', w⟩] 2 }
theorem make_rd (P : Params) (SO : StreamOk Y P) (Ok : SysOk Y) {A : Around} {E : Value → Shared → Prop} {s : Shared} {env : Env} {co ca : Addr} (lO : env.cells.lookup (Str.ofString "octets") = some co) (lA : env.cells.lookup (Str.ofString "at") = some ca)
    (g : Y.G s.heap) (hglob : env.globals = mainGlobals) (hcode : env.code = .ref 123) {R : Value → Shared → Prop}
    (h : ∀ h4 tk c' doc pm ctv, (∀ b o, b ≠ Y.P → s.heap.get? b = some o → h4.get? b = some o) → Y.G h4 → h4.CodeRec (.ref c') qRead → c' ≠ Y.P → R (.ref h4.objs.size) { s with heap := h4.push { cls := .type "function", data := .func (rdFn P qRead co ca doc pm (.ref c') ctv) }, toks := tk }) :
    wpAny (model Y.prog Y.w) A (makeFunction (Str.ofString "_law_read") qRead (rdParams P) (.stmts (rdBody P)) (rdScope P) env [] [] [] ⟨76, 4, 79, 20⟩ 76) R E s := by
  obtain ⟨ps, hP, ht⟩ := SO.tab _ g
  have hcl := clo_rd P lO lA
  have hs : 119 < s.heap.objs.size := Heap.lt_size hP
  rcases ht with rfl | ⟨c, rfl, hc, hne⟩
  · refine makeFunction_K (P := 119) (mg := Y.mg) hcl hglob (Ok.glob _ g) hcode (SO.code _ g) hP trivial (by rfl) (by decide) (SO.bui _ g) fun c' ctv doc h4 tk hx hge hlt hrec htb => ?_
    have hc' : c' ≠ 119 := Nat.ne_of_gt (Nat.lt_of_lt_of_le hs hge)
    refine h h4 tk c' doc _ ctv (fun b o hb e => hx b o (by rw [← SO.at_]; exact hb) e) (SO.grow _ _ c' g hx htb hrec hc') hrec (by rw [SO.at_]; exact hc')
  · refine makeFunction_hit (P := 119) (mg := Y.mg) hcl hglob (Ok.glob _ g) hcode (SO.code _ g) hP trivial (cv := .ref c) (by rfl) (SO.bui _ g) fun ctv doc h4 tk kk hsz => ?_
    refine h h4 tk c doc _ ctv (fun b o hb e => kk b o e) (Ok.mono _ _ g kk) ?_ (by rw [SO.at_]; exact hne)
    obtain ⟨c2, oc, vs, t, e1, e2, e3⟩ := hc
    exact ⟨c2, oc, vs, t, e1, kk _ _ e2, e3⟩
/-- the tape's own dict is not at L -/
noncomputable def TapeOff (h : Heap) (L pt : Addr) : Prop := ∃ dx, h.get? pt = some (instObj 99 dx) ∧ dx ≠ L
theorem TapeAt.but {P : Params} {h h' : Heap} {a pt pat : Addr} {B : Array UInt8} (x : TapeAt Y P h pt pat B) (k : ∀ b o, b ≠ a → h.get? b = some o → h'.get? b = some o) (hdx : TapeOff h a pt)
    (hd : ∀ o, h.get? a = some o → (∃ es n, o.data = .dict es n) ∨ (∃ vs n, o.data = .seq vs n)) : TapeAt Y P h' pt pat B := by
  obtain ⟨dx', e', hn⟩ := hdx
  have key : ∀ b o, h.get? b = some o → (∀ es n, o.data ≠ .dict es n) → (∀ vs n, o.data ≠ .seq vs n) → h'.get? b = some o := fun b o e h1 h2 => k b o (fun q => by
    rw [q] at e
    rcases hd o e with ⟨es, n, d⟩ | ⟨vs, n, d⟩
    · exact h1 _ _ d
    · exact h2 _ _ d) e
  obtain ⟨dx, od, pf, q1, q2, q3, RA⟩ := x.ex
  obtain ⟨o, qual, co, ca, doc, pm, code, ct, tB, ho, hfd, hc, c1, c2, r⟩ := RA.ex
  have hdd : dx ≠ a := by
    rw [q1] at e'
    have : some dx = some dx' := congrArg Obj.dict (Option.some.inj e')
    rw [Option.some.inj this]; exact hn
  refine ⟨dx, od, pf, key _ _ q1 (fun es n q => by cases q) (fun vs n q => by cases q), k _ _ hdd q2, q3, o, qual, co, ca, doc, pm, code, ct, tB, key _ _ ho (fun es n q => by rw [hfd] at q; cases q) (fun vs n q => by rw [hfd] at q; cases q), hfd, ?_, ?_, ?_, r⟩
  · obtain ⟨c, oc, vs, t, e1, e2, e3, e4⟩ := hc
    exact ⟨c, oc, vs, t, e1, key _ _ e2 (fun es n q => by rw [e3] at q; cases q) (fun vs n q => by rw [e3] at q; cases q), e3, e4⟩
  · obtain ⟨o, e, d⟩ := c1
    exact ⟨o, key _ _ e (fun es n q => by rw [d] at q; cases q) (fun vs n q => by rw [d] at q; cases q), d⟩
  · obtain ⟨o, e, d⟩ := c2
    exact ⟨o, key _ _ e (fun es n q => by rw [d] at q; cases q) (fun vs n q => by rw [d] at q; cases q), d⟩
set_option tactic.hygienic true in
theorem TapeAt.off {P : Params} {h : Heap} {a pt pat : Addr} {B : Array UInt8} (x : TapeAt Y P h pt pat B) {o : Obj} (e : h.get? a = some o) (hd : ∀ es n, o.data ≠ .dict es n) : TapeOff h a pt := by
  obtain ⟨dx, od, pf, q1, q2, q3, RA⟩ := x.ex
  refine ⟨dx, q1, fun q => ?_⟩
  rw [q, e] at q2; cases q2
  unfold lookIn at q3
  split at q3
  · rename_i es n d; exact hd _ _ d
  · cases q3
theorem TapeOff.up {h h' : Heap} {L pt : Addr} (x : TapeOff h L pt) (k : ∀ o, h.get? pt = some o → h'.get? pt = some o) : TapeOff h' L pt := let ⟨dx, e, n⟩ := x; ⟨dx, k _ e, n⟩
theorem stream_ok (Ok : SysOk Y) (P : Params) (SO : StreamOk Y P) (N : FnAt Y 96 (fdOf 96 P) (bodyOf 96 P) [Str.ofString "self", Str.ofString "value"]) (N2 : FnAt Y 124 (fdOf 124 P) (bodyOf 124 P) [Str.ofString "octets", Str.ofString "at"]) (mgE : Y.mg (Str.ofString "_Example") = some (.ref 99))
    {A : Around} {s : Shared} {hid : Addr → Bool} {B : Array UInt8} {tB : Tok} {pat : Addr} {Q : Value → Shared → Prop} {E : Value → Shared → Prop}
    (R : Room (k + 3) A) (g : Y.G s.heap) (H : HidOk Y hid s.heap) (L : AtPos s.heap pat 0)
    (h : ∀ h' tk pt, (∀ b o, b ≠ Y.P → s.heap.get? b = some o → h'.get? b = some o) → Y.G h' → s.heap.get? pt = none → TapeAt Y P h' pt pat B → (∀ L o, s.heap.get? L = some o → TapeOff h' L pt) → Q (.ref pt) { s with heap := h', toks := tk }) :
    wpAny (model Y.prog Y.w) A (call (.ref 124) [.bytes B tB, .ref pat]) Q E s := by
  refine fn_raw2 Ok N2 R g H rfl fun env s₁ sm kp fL fC Fr eF ⟨Lf, eE⟩ S0 hv => ?_
  obtain ⟨h1, tk1, rfl⟩ := sm
  change (∀ b o, s.heap.get? b = some o → h1.get? b = some o) at kp
  have vO := (hv (Str.ofString "octets") (.bytes B tB) (.head _)).2
  have vA := (hv (Str.ofString "at") (.ref pat) (.tail _ (.head _))).2
  have hgE : globalKind (fdOf 124 P).scope (Str.ofString "_Example") = true := by with_unfolding_all rfl
  have stT : (fdOf 124 P).scope.names.lookup (Str.ofString "tape") = some .local := by with_unfolding_all rfl
  have stR : (fdOf 124 P).scope.names.lookup (Str.ofString "_law_read") = some .local := by with_unfolding_all rfl
  have kO : (fdOf 124 P).scope.names.lookup (Str.ofString "octets") = some .cell := by with_unfolding_all rfl
  have kA : (fdOf 124 P).scope.names.lookup (Str.ofString "at") = some .cell := by with_unfolding_all rfl
  have hq : qualnameIn env (Str.ofString "_law_read") (Str.ofString "_law_read") = qRead := by rw [eE]; kernel_rfl!
  have hcode : env.code = .ref 123 := by rw [eE]; kernel_rfl!
  clear eE
  -- the cells
  obtain ⟨co, lO, cO⟩ : ∃ c, env.cells.lookup (Str.ofString "octets") = some c ∧ h1.IsCell c (some (.bytes B tB)) := by
    rcases vO with ⟨q, _⟩ | ⟨_, _, c, e, n⟩
    · unfold Env.kindOf at q; rw [S0.V.sce, kO] at q; cases q
    · exact ⟨c, e, n⟩
  obtain ⟨ca, lA, cA⟩ : ∃ c, env.cells.lookup (Str.ofString "at") = some c ∧ h1.IsCell c (some (.ref pat)) := by
    rcases vA with ⟨q, _⟩ | ⟨_, _, c, e, n⟩
    · unfold Env.kindOf at q; rw [S0.V.sce, kA] at q; cases q
    · exact ⟨c, e, n⟩
  have hne : co ≠ ca := fun q => by
    have := Fr.1 _ _ _ lO (q ▸ lA)
    exact absurd this (ne_of_beq_false (by kernel_rfl!))
  have bO := Fr.2 _ _ lO
  have bA := Fr.2 _ _ lA
  have hcl := clo_rd P lO lA
  have live_ne : ∀ b o, s.heap.get? b = some o → b ≠ env.locals := fun b o e => by rintro rfl; rw [fL] at e; cases e
  conv in (bodyOf 124 P) => whnf
  refine wpAny_execs_cons (wpAny_Assign_Name (wpAny_Call_NameR (load_glob (s := { s with heap := h1, toks := tk1 }) Ok S0.V S0.g hgE (by kernel_rfl!) mgE (callWith_of (P := fun h => (hd.heap_39 P).In h) rfl (keeps_K (k_keep P)) (evalArgs_one (load_var (s := { s with heap := h1, toks := tk1 }) S0.V (by kernel_rfl!) vO ⟨SO.kin _ S0.g, make_ok (s := { s with heap := h1, toks := tk1 }) Ok P SO N (R.deeper env) S0.g S0.H fun h2 tk2 hs t x dx kk fx fd ex ed => ?_⟩) rfl)))) rfl)
  change (∀ b o, h1.get? b = some o → h2.get? b = some o) at kk
  change h1.get? x = none at fx
  change h1.get? dx = none at fd
  have g2 := Ok.mono _ _ S0.g kk
  have S2 : Raw Y (fdOf 124 P).scope env hid h2 := S0.up Ok (Kp.of kk) g2
  have ndL : dx ≠ env.locals := fun q => by
    obtain ⟨m, o, es, ep, e, _⟩ := S0.ns
    rw [← q, fd] at e; cases e
  have nxL : x ≠ env.locals := fun q => by
    obtain ⟨m, o, es, ep, e, _⟩ := S0.ns
    rw [← q, fx] at e; cases e
  have ndC : ∀ z, env.cells.lookup z ≠ some dx := fun z q => by
    obtain ⟨v, o, e, _⟩ := S0.V.cellAt z dx q
    rw [fd] at e; cases e
  refine raw_storeL (s := { s with heap := h2, toks := tk2 }) Ok S2 stT fun h3 tk3 S3 kk3 vT3 vo3 => ?_
  have keep3 : ∀ b o, b ≠ env.locals → h1.get? b = some o → h3.get? b = some o := fun b o hb e => kk3 b o hb (kk b o e)
  have ex3 : h3.get? x = some (instObj 99 dx) := kk3 _ _ nxL ex
  have ed3 : h3.get? dx = some (dictV hs t (.bytes B tB)) := kk3 _ _ ndL ed
  have cellL : ∀ z c, env.cells.lookup z = some c → c ≠ env.locals := fun z c e q => by
    obtain ⟨v, o, e2, d2⟩ := S0.V.cellAt z c e
    obtain ⟨m, o', es, ep, e3, d3, _⟩ := S0.ns
    rw [q, e3] at e2; cases e2; rw [d3] at d2; cases d2
  have cO3 : h3.IsCell co (some (.bytes B tB)) := let ⟨o, e, d⟩ := cO; ⟨o, keep3 _ _ (cellL _ _ lO) e, d⟩
  have cA3 : h3.IsCell ca (some (.ref pat)) := let ⟨o, e, d⟩ := cA; ⟨o, keep3 _ _ (cellL _ _ lA) e, d⟩
  -- the def
  refine wpAny_execs_cons (nestDef_K rfl rfl rfl ?_)
  rw [hq]
  refine make_rd (s := { s with heap := h3, toks := tk3 }) P SO Ok lO lA S3.g S3.V.glob hcode fun h4 tk4 c' doc pm ctv k4 g4 hrec hcP => ?_
  change (∀ b o, b ≠ Y.P → h3.get? b = some o → h4.get? b = some o) at k4
  have f5 : h4.get? h4.objs.size = none := get_size _
  generalize hpf : h4.objs.size = pf at f5
  have kk5 : ∀ b o, h4.get? b = some o → (h4.push { cls := .type "function", data := .func (rdFn P qRead co ca doc pm (.ref c') ctv) }).get? b = some o := fun b o e => Heap.get?_push_of_some _ e
  have epf : (h4.push { cls := .type "function", data := .func (rdFn P qRead co ca doc pm (.ref c') ctv) }).get? pf = some { cls := .type "function", data := .func (rdFn P qRead co ca doc pm (.ref c') ctv) } := by rw [← hpf]; exact Heap.get?_push_size _ rfl
  have g5 := Ok.mono _ _ g4 kk5
  generalize hh5 : h4.push { cls := .type "function", data := .func (rdFn P qRead co ca doc pm (.ref c') ctv) } = h5 at kk5 epf g5
  have k35 : Kp Y.P h3 h5 := fun b o hb e => kk5 b o (k4 b o hb e)
  have S5 : Raw Y (fdOf 124 P).scope env hid h5 := S3.up Ok k35 g5
  have vT5 := vT3.up Ok S3.g k35
  have nP : ∀ {b : Addr} {o : Obj}, h3.get? b = some o → o.cls ≠ .none → b ≠ Y.P := fun {b o} e hn q => by
    obtain ⟨ps, hP⟩ := Ok.tab _ S3.g
    rw [q, hP] at e
    cases e; exact hn rfl
  have cellP : ∀ {c : Addr} {v : Option Value}, h3.IsCell c v → c ≠ Y.P := fun n => cell_notP Ok S3.g n
  have ex5 : h5.get? x = some (instObj 99 dx) := k35 _ _ (nP ex3 (by intro q; cases q)) ex3
  have ed5 : h5.get? dx = some (dictV hs t (.bytes B tB)) := k35 _ _ (nP ed3 (by intro q; cases q)) ed3
  have cO5 : h5.IsCell co (some (.bytes B tB)) := let ⟨o, e, d⟩ := cO3; ⟨o, k35 _ _ (cellP cO3) e, d⟩
  have cA5 : h5.IsCell ca (some (.ref pat)) := let ⟨o, e, d⟩ := cA3; ⟨o, k35 _ _ (cellP cA3) e, d⟩
  have hrec5 : h5.CodeRec (.ref c') qRead := let ⟨c2, oc, vs, t, e1, e2, e3⟩ := hrec; ⟨c2, oc, vs, t, e1, kk5 _ _ e2, e3⟩
  show wpAny (model Y.prog Y.w) (A.deeper env) (storeName env (Str.ofString "_law_read") (.ref pf)) _ _ { s with heap := h5, toks := tk4 }
  refine raw_storeL (s := { s with heap := h5, toks := tk4 }) Ok S5 stR fun h6 tk6 S6 kk6 vR6 vo6 => ?_
  have epfL : pf ≠ env.locals := fun q => by
    obtain ⟨m, o, es, ep, e, _⟩ := S3.ns
    have := k4 _ _ (ns_notP Ok S3.g S3.ns.choose_spec) e
    rw [← q, f5] at this; cases this
  have vT6 := vo6 _ _ (ne_of_beq_false (by kernel_rfl!)) vT5
  have ex6 := kk6 _ _ nxL ex5
  have ed6 := kk6 _ _ ndL ed5
  have epf6 := kk6 _ _ epfL epf
  have cO6 : h6.IsCell co (some (.bytes B tB)) := let ⟨o, e, d⟩ := cO5; ⟨o, kk6 _ _ (cellL _ _ lO) e, d⟩
  have cA6 : h6.IsCell ca (some (.ref pat)) := let ⟨o, e, d⟩ := cA5; ⟨o, kk6 _ _ (cellL _ _ lA) e, d⟩
  have X6 := SO.kin _ S6.g
  have I : InstAt h6 x (instObj 99 dx) 99 (some (dictV hs t (.bytes B tB))) := ⟨ex6, rfl, rfl, ed6⟩
  refine wpAny_execs_cons (plainObj_wpAny_Assign_Attribute (load_var (s := { s with heap := h6, toks := tk6 }) S6.V (by kernel_rfl!) vR6 (load_var (s := { s with heap := h6, toks := tk6 }) S6.V (by kernel_rfl!) vT6 (set_plain (s := { s with heap := h6, toks := tk6 }) X6 I (k_sa P) (osa_exact (s := { s with heap := h6, toks := tk6 + 1 }) (od' := dictVR hs t (.bytes B tB) (PyData.keyHash Y.w.params (Str.ofString "read")) (tk6 + 1) (.ref pf)) (es := [⟨hs, .str (Str.ofString "value") t, .bytes B tB⟩, ⟨PyData.keyHash Y.w.params (Str.ofString "read"), .str (Str.ofString "read") (tk6 + 1), .ref pf⟩]) (n := 2) X6 I rfl (k_plain P) (k_tread P) (k_dict P) (by kernel_rfl!) (by kernel_rfl!) rfl (by show 2 ≤ 1000; decide) fun h7 e7 k7 => ?_)))) rfl)
  have kk7 : ∀ b o, b ≠ dx → h6.get? b = some o → h7.get? b = some o := fun b o hb e => by rw [k7 b hb]; exact e
  have fds : s.heap.get? dx = none := by
    cases q : s.heap.get? dx with
    | none => rfl
    | some o => have := kp dx o q; rw [fd] at this; cases this
  have fxs : s.heap.get? x = none := by
    cases q : s.heap.get? x with
    | none => rfl
    | some o => have := kp x o q; rw [fx] at this; cases this
  have g7 : Y.G h7 := Ok.chg h6 h7 [dx] S6.g (fun a ha => by
    rw [List.mem_singleton.mp ha]
    refine ⟨Ok.fresh _ _ g fds, nP ed3 (by intro q; cases q), fun o e => ?_⟩
    rw [ed6] at e; cases e
    intro vs q t e; cases e) fun b o hb e => kk7 b o (by simpa using hb) e
  obtain ⟨S7, v7⟩ := raw_at S6 kk7 g7 ndL ndC ⟨_, e7⟩
  have nxd : x ≠ dx := fun q => by rw [q, ed6] at ex6; cases ex6
  have npd : pf ≠ dx := fun q => by rw [q, ed6] at epf6; (have z := congrArg Obj.data (Option.some.inj epf6); cases z)
  refine wpAny_execs_cons (wpAny_Return_some (load_var (s := { s with heap := h7, toks := _ }) S7.V (by kernel_rfl!) (v7 _ _ vT6) ?_))
  have cellD : ∀ {c : Addr} {v : Option Value}, h6.IsCell c v → h7.IsCell c v := fun {c v} ⟨o, e, d⟩ => ⟨o, kk7 _ _ (fun q => by rw [q, ed6] at e; cases e; cases d) e, d⟩
  refine h h7 _ x (fun b o hP e => ?_) g7 fxs ⟨dx, _, pf, kk7 _ _ nxd ex6, e7, by kernel_rfl!, ⟨_, qRead, co, ca, doc, pm, .ref c', ctv, tB, kk7 _ _ npd epf6, rfl, ?_, cellD cO6, cellD cA6, hne, bO, bA, fun q => hcP (Value.ref.inj q)⟩⟩ (fun L o e => ⟨dx, kk7 _ _ nxd ex6, fun q => by rw [← q, fds] at e; cases e⟩)
  · have hL := live_ne b o e
    exact kk7 b o (fun q => by rw [q, fds] at e; cases e) (kk6 b o hL (k35 b o hP (keep3 b o hL (kp b o e))))
  · obtain ⟨c2, oc, vs, t2, e1, e2, e3, e4⟩ := hrec5
    refine ⟨c2, oc, vs, t2, e1, kk7 _ _ (fun q => ?_) (kk6 _ _ (fun q => ?_) e2), e3, e4⟩
    · rw [q, ed5] at e2; cases e2; cases e3
    · obtain ⟨m, o, es, ep, e, d, _⟩ := S5.ns
      rw [← q, e2] at e; cases e; rw [e3] at d; cases d
end
end Mine
end
section
set_option tactic.hygienic false
open PySem PySem.W PySem.Calls PyProof.Rows
namespace Mine
section
variable {Y : Sys} {T : Tab} {k : Nat} {A : Around} {E : Value → Shared → Prop} {s : Shared} {hid : Addr → Bool} {env : Env} {sc : Scope} {l : List Env}
/-- all is kept but the tape's place, the frame's own names and the frames' slots -/
noncomputable def KpC (Y : Sys) (env : Env) (l : List Env) (pat : Addr) (h h' : Heap) : Prop :=
  ∀ b o, b ≠ Y.P → b ≠ pat → b ≠ env.locals → h.get? b = some o → (b ∉ frs l → h'.get? b = some o) ∧ ∃ sl, h'.get? b = some { o with slots := sl }
/-- the exception at e, as it is caught -/
structure ExcIs (h : Heap) (hid : Addr → Bool) (e t : Addr) (args : List Value) : Prop where
  there : ∃ oe ws, h.get? e = some oe ∧ oe.cls = .type "ValueError" ∧ oe.data = .fields ws ∧ ws[0]? = some (.ref t)
  tup : h.TupAt t args
  seen : hid t = false
theorem caught_as (Ok : SysOk Y) {pn pos : Pos} {n : Str} {b₀ : Stmt} {suite : List Stmt} {rest : List ExceptHandler} {Q : Flow → Shared → Prop} {h0 hE : Heap} {e pat : Addr} {p0 p1 : Nat} {args : List Value} (B : BFr Y env l) (hfr : A.frames = some (env :: l))
    (S : Raw Y sc env hid h0) (Fl : FrOk Y h0 l) (L : AtPos h0 pat p0) (fl : Flies Y (env :: l) pat h0 args hE e s.heap) (LE : AtPos hE pat p1) (hg : globalKind sc (Str.ofString "ValueError") = true) (hn : sc.names.lookup n = some .local)
    (hQ : ∀ h' tk t (E' : Value → Shared → Prop), KpC Y env l pat h0 h' → Raw Y sc env hid h' → AtPos h' pat p1 → VarAt env h' n (.ref e) → (∀ z w, z ≠ n → VarAt env h0 z w → VarAt env h' z w) → ExcIs h' hid e t args →
      wpAny (model Y.prog Y.w) (A.mark (some (.ref e))) (execs (b₀ :: suite) env) (fun f s₄ => wpAny (model Y.prog Y.w) A (do PySem.bindName env n .none; unbindBehindTheSuite env n pos) (fun _ s₅ => Q f s₅) E s₄) E' { s with heap := h', toks := tk }) :
    wpAny (model Y.prog Y.w) A (noteFrame (.ref e) env) (fun _ s₂ => wpAny (model Y.prog Y.w) A (setFlight (.ref e) none) (fun _ s₃ =>
      wpAny (model Y.prog Y.w) A (handleBy (.ref e) env (.ExceptHandler (some (.Name (Str.ofString "ValueError") pn)) (some n) (b₀ :: suite) pos :: rest)) Q E s₃) E s₂) E s := by
  obtain ⟨lc, t, FC, cl, fly, tup, tn, up⟩ := fl.ex
  obtain ⟨SE, vE⟩ := raw_kpt (pat := pat) Ok S fl.kp fl.g L.dat LE.live
  refine wpAny_looks_onW hfr B.frame fly fun h2 held2 u2 => ?_
  refine wpAny_landsW (s := { s with heap := h2 }) held2 fun h3 fly3 u3 => ?_
  have up3 := (up.trans u2).trans u3
  obtain ⟨kp3, g3⟩ := Kps_of Ok fl.g FC (fun b o q => q) fly3.1 up3
  have S3 := SE.kps Ok FC kp3 g3
  obtain ⟨ob3, hob3, hc3⟩ := fly3.there
  have hv : biVal (Str.ofString "ValueError") = some (.type "ValueError") := by decide +kernel
  refine wpAny_handleBy_builtin_as (X := "ValueError") (T := "ValueError") (b := true) (F.isExc_ValueError) (F.notTuple_ValueError) (F.self_ValueError) (load_bi (s := { s with heap := h3 }) Ok S3.V g3 hg (by decide +kernel) hv ⟨rfl, ⟨ob3, hob3, hc3⟩, ?_⟩)
  refine lands_againW (s := { s with heap := h3 }) fly3 fun h4 fly4 u4 => ?_
  have up4 := up3.trans u4
  obtain ⟨kp4, g4⟩ := Kps_of Ok fl.g FC (fun b o q => q) fly4.1 up4
  have S4 := SE.kps Ok FC kp4 g4
  have L4 : AtPos h4 pat p1 := by
    obtain ⟨tl, o, eo, c, nn, d⟩ := LE
    exact ⟨tl, o, kp4.dat FC (by simp [isDat, d]) (list_notP Ok fl.g ⟨o, eo, c, nn, d⟩) eo, c, nn, d⟩
  have tup4 := ((tup.of_slots u2).of_slots u3).of_slots u4
  obtain ⟨oe, ws, hoe, hoec, hoed, hoe0⟩ := fly4.first
  obtain ⟨m4, n4⟩ := S4.ns
  have eL : e ≠ env.locals := fun q => by
    obtain ⟨o, es, ep, e2, d2, _⟩ := n4
    rw [← q, hoe] at e2; cases e2; rw [hoed] at d2; cases d2
  have tL : t ≠ env.locals := fun q => by
    obtain ⟨o, es, ep, e2, d2, _⟩ := n4
    obtain ⟨ot, nt, hot, _, hotd⟩ := tup4
    rw [← q, hot] at e2; cases e2; rw [hotd] at d2; cases d2
  have patL : pat ≠ env.locals := fun q => by
    obtain ⟨o, es, ep, e2, d2, _⟩ := n4
    obtain ⟨tl, ot, hot, _, _, hotd⟩ := L4
    rw [← q, hot] at e2; cases e2; rw [hotd] at d2; cases d2
  have ht : hid t = false := by
    cases q : hid t with
    | false => rfl
    | true =>
      exfalso
      obtain ⟨ot, nt, hot, hotc, hotd⟩ := tup4
      have tP : t ≠ Y.P := fun q => by
        obtain ⟨ps, hP⟩ := Ok.tab _ g4
        rw [← q, hot] at hP; cases hP; cases hotc
      obtain ⟨o, eo⟩ := SE.H.live t q
      have tf : t ∈ frs lc := Decidable.byContradiction fun hx => by
        have := hideAll_get _ eo hx
        rw [tn] at this; cases this
      obtain ⟨m, nn⟩ := frs_live FC tf
      obtain ⟨o', es, ep, e', d, _⟩ := nn
      rw [eo] at e'; cases e'
      obtain ⟨_, sl, hs⟩ := kp4 t o tP eo
      rw [hot] at hs; cases hs
      have hotd : (_ : Data) = _ := hotd; rw [show _ = _ from d] at hotd; cases hotd
  refine raw_storeL (s := { s with heap := h4 }) Ok S4 hn fun h5 tk5 S5 kk5 vN5 vo5 => ?_
  refine hQ h5 tk5 t _ (fun b o hP hp hL eo => ?_) S5 (let ⟨tl, il⟩ := L4; ⟨tl, il.at fun o eo => kk5 pat o patL eo⟩) vN5 (fun z w hz hw => vo5 z w hz (kp4.var Ok fl.g FC (vE z w hw))) ⟨⟨oe, ws, kk5 _ _ eL hoe, hoec, hoed, hoe0⟩, ?_, ht⟩
  · have eE := fl.kp b o hP hp eo
    obtain ⟨a1, sl, a2⟩ := kp4 b o hP eE
    refine ⟨fun hx => kk5 b o hL (a1 fun q => ?_), sl, kk5 b _ hL a2⟩
    rcases cl b q with q | q
    · rw [frs_cons B.frame] at q
      rcases List.mem_cons.mp q with q | q
      · exact hL q
      · exact hx q
    · rw [q] at eo; cases eo
  · obtain ⟨ot, nt, hot, hotc, hotd⟩ := tup4
    exact ⟨ot, nt, kk5 _ _ tL hot, hotc, hotd⟩
end
end Mine
end
section
set_option tactic.hygienic false
open PySem PySem.W PySem.Calls PyProof.Rows
namespace Mine
/-- how the reading of a tape goes on: what is read, what lies ahead, what is read at the end, the last words -/
inductive Tp : List (List Nat) → List Nat → List (List Nat) → Str → Prop
  | fin (done : List (List Nat)) : Tp done [] done wU
  | cut (done : List (List Nat)) (n : Nat) (tl : List Nat) : 1 ≤ n → n ≤ 4 → tl.length + 1 = n → Tp done (n :: tl) done (wB n)
  | more {done : List (List Nat)} {g mr : List Nat} {fin : List (List Nat)} {w : Str} : GateIn g → Tp (done ++ [g]) mr fin w → Tp done (g.length :: (g ++ mr)) fin w
theorem tape_cons (g : List Nat) (r : List (List Nat)) : tape (g :: r) = g.length :: (g ++ tape r) := by
  unfold tape; rw [List.flatMap_cons]; rfl
theorem tape_app (a b : List (List Nat)) : tape (a ++ b) = tape a ++ tape b := by
  unfold tape; rw [List.flatMap_append]
theorem tp_full : ∀ (rest done : List (List Nat)), (∀ g ∈ rest, GateIn g) → Tp done (tape rest) (done ++ rest) wU
  | [], done, _ => by rw [List.append_nil]; exact .fin done
  | g :: r, done, h => by
    have := tp_full r (done ++ [g]) fun x hx => h x (.tail _ hx)
    rw [List.append_assoc] at this
    rw [tape_cons]
    exact .more (h g (.head _)) this
theorem tp_cut : ∀ (rest done : List (List Nat)) (g0 : List Nat), (∀ g ∈ rest, GateIn g) → GateIn g0 → Tp done (tape (rest ++ [g0])).dropLast (done ++ rest) (wB g0.length)
  | [], done, g0, _, h0 => by
    obtain ⟨t, q, rfl, ht, hq, hn⟩ := h0
    have e : (tape ([] ++ [t :: q])).dropLast = (t :: q).length :: (t :: q).dropLast := by
      rw [List.nil_append, tape_cons]
      show ((t :: q).length :: ((t :: q) ++ [])).dropLast = _
      rw [List.append_nil]; rfl
    rw [e, List.append_nil]
    refine .cut done _ _ (by simp) (by simp; omega) ?_
    rw [List.length_dropLast]; simp
  | g :: r, done, g0, h, h0 => by
    have ih := tp_cut r (done ++ [g]) g0 (fun x hx => h x (.tail _ hx)) h0
    have hne : tape (r ++ [g0]) ≠ [] := by
      rw [tape_app, tape_cons]; simp
    have e : (tape (g :: r ++ [g0])).dropLast = g.length :: (g ++ (tape (r ++ [g0])).dropLast) := by
      rw [List.cons_append, tape_cons, List.dropLast_cons_of_ne_nil (by simp [hne]), List.dropLast_append_of_ne_nil hne]
    rw [e]
    rw [List.append_assoc] at ih
    exact .more (h g (.head _)) ih
theorem Tp.len {done bs fin w} (h : Tp done bs fin w) : done.length ≤ fin.length := by
  induction h with
  | fin => exact Nat.le_refl _
  | cut => exact Nat.le_refl _
  | more _ _ ih => rw [List.length_append, List.length_singleton] at ih; (first | lia | omega)
theorem Tp.done_of {done bs fin w} (h : Tp done bs fin w) (e : bs.head? = none) : done = fin ∧ wU = w := by
  cases h with
  | fin => exact ⟨rfl, rfl⟩
  | cut => cases e
  | more => cases e
theorem Tp.more_of {done n tl fin w} (h : Tp done (n :: tl) fin w) (e : n ≤ tl.length) : ∃ g mr, n = g.length ∧ tl = g ++ mr ∧ GateIn g ∧ Tp (done ++ [g]) mr fin w := by
  cases h with
  | cut _ _ _ _ _ e3 => exact absurd e3 (by (first | lia | omega))
  | more hg htp => exact ⟨_, _, rfl, rfl, hg, htp⟩
theorem Tp.cut_of {done n tl fin w} (h : Tp done (n :: tl) fin w) (e : tl.length < n) : done = fin ∧ 1 ≤ n ∧ n ≤ 4 ∧ tl.length + 1 = n ∧ wB n = w := by
  cases h with
  | cut _ _ _ e1 e2 e3 => exact ⟨rfl, e1, e2, e3, rfl⟩
  | more hg htp => rw [List.length_append] at e; exact absurd e (by (first | lia | omega))
theorem head_some {bs : List Nat} {c : UInt8} (hb : ∀ n ∈ bs, n < 256) (e : (bs.head?.map fun n => UInt8.ofNat n) = some c) : ∃ n tl, bs = n :: tl ∧ c.toNat = n := by
  cases bs with
  | nil => cases e
  | cons n tl => cases e; exact ⟨n, tl, rfl, u8_nat (hb _ (.head _))⟩
theorem head_none {bs : List Nat} (e : (bs.head?.map fun n => UInt8.ofNat n) = none) : bs.head? = none := by
  cases bs with
  | nil => rfl
  | cons n tl => cases e
/-- what the contract's two cases say alike -/
theorem readall_spec {ds : List D} {Q : D → Prop} (h : sReadAll ds Q) : ∃ bs fin w, ds = [.bytes (bOf bs)] ∧ Tp [] bs fin w ∧ fin.length ≤ 6 ∧ bs.length ≤ 30 ∧ (∀ n ∈ bs, n < 256) ∧ Q (.tuple [.list (fin.map dB), .tuple [.str w]]) := by
  obtain ⟨gs, h1, h6, hg, hq⟩ := h
  have ht := tape_len hg
  have h2 := tape_256 hg
  rcases hq with ⟨rfl, hq⟩ | ⟨rfl, hq⟩
  · exact ⟨tape gs, gs, wU, rfl, tp_full gs [] hg, h6, by (first | lia | omega), h2, hq⟩
  · have hne : gs ≠ [] := by rintro rfl; simp at h1
    obtain ⟨r, g0, rfl⟩ : ∃ r g0, gs = r ++ [g0] := ⟨gs.dropLast, gs.getLast hne, (List.dropLast_concat_getLast hne).symm⟩
    have e1 : (r ++ [g0]).dropLast = r := by simp
    have e2 : (r ++ [g0]).getLastD [] = g0 := by simp [List.getLastD_eq_getLast?]
    unfold readCut at hq
    rw [e1, e2] at hq
    refine ⟨_, r, wB g0.length, rfl, tp_cut r [] g0 (fun g hx => hg g (List.mem_append_left _ hx)) (hg g0 (by simp)), by simp at h6; (first | lia | omega), by rw [List.length_dropLast]; (first | lia | omega), fun n hn => h2 n (List.dropLast_subset _ hn), hq⟩
/-- the octets ahead -/
theorem tp_at {a b : List Nat} : (bOf (a ++ b)).toList[a.length]? = b.head?.map fun n => UInt8.ofNat n := by
  rw [bOf_list, List.map_append, List.getElem?_append_right (by rw [List.length_map]; exact Nat.le_refl _), List.length_map, Nat.sub_self]
  cases b <;> rfl
theorem tp_piece {a g mr : List Nat} {n : Nat} : (((bOf (a ++ n :: (g ++ mr))).toList.drop (a.length + 1)).take g.length).toArray = bOf g := by
  have e : (bOf (a ++ n :: (g ++ mr))).toList = a.map (fun n => UInt8.ofNat n) ++ ([UInt8.ofNat n] ++ (g.map (fun n => UInt8.ofNat n) ++ mr.map fun n => UInt8.ofNat n)) := by
    rw [bOf_list, List.map_append, List.map_cons, List.map_append]; rfl
  rw [e, ← List.append_assoc, List.drop_left' (by simp), List.take_left' (by simp)]
  rfl
end Mine
end
section
set_option tactic.hygienic false
open PySem PySem.W PySem.Calls PyProof.Rows
namespace Mine
/-- the state ahead of a turn of the reading -/
structure RdI (Y : Sys) (P : Params) (env : Env) (hid : Addr → Bool) (s : Shared) (I pt pat : Addr) (bs : List Nat) (fin : List (List Nat)) (w : Str) (done : List (List Nat)) (bs' : List Nat) (vs : List Value) (n : Nat) (h : Heap) : Prop where
  S : Raw Y (fdOf 171 P).scope env hid h
  kq : Kp Y.P s.heap h
  vI : VarAt env h (Str.ofString "items") (.ref I)
  vT : VarAt env h (Str.ofString "tape") (.ref pt)
  TA : TapeAt Y P h pt pat (bOf bs)
  off : TapeOff h env.locals pt
  L : AtPos h pat (tape done).length
  iI : IsL h I (List.toArray vs) n
  rv : RepL (fun _ => none) vs (done.map dB)
  hbs : bs = tape done ++ bs'
  htp : Tp done bs' fin w
section
variable {h h' : Heap} {L pt pat b : Addr}
theorem ns_fresh (n : ∃ m, h.Ns L m) (f : h.get? b = none) : b ≠ L := fun q => by
  obtain ⟨m, o, es, ep, e, _⟩ := n
  rw [← q, f] at e; cases e
theorem ns_dict (n : ∃ m, h.Ns L m) : ∀ o, h.get? L = some o → (∃ es n, o.data = .dict es n) ∨ (∃ vs n, o.data = .seq vs n) := fun o e => by
  obtain ⟨m, o', es, ep, e', d, _⟩ := n
  rw [e] at e'; cases e'
  exact .inl ⟨_, _, d⟩
theorem off_ne (off : TapeOff h L pt) {o : Obj} (e : h.get? b = some o) (d : ∀ dx, o.data ≠ (instObj 99 dx).data) : pt ≠ b := fun q => by
  obtain ⟨dx, e2, _⟩ := off
  rw [q, e] at e2; cases e2
  exact d dx rfl
theorem off_ns (n : ∃ m, h.Ns L m) (off : TapeOff h L pt) : pt ≠ L := let ⟨_, _, _, _, e, d, _⟩ := n; off_ne off e fun dx q => by rw [d] at q; cases q
theorem off_tab {ps : Array Value} (e : h.get? b = some (tabObj ps)) (off : TapeOff h L pt) : pt ≠ b := off_ne off e fun dx q => by cases q
theorem off_isl {vs : Array Value} {n : Nat} (e : IsL h b vs n) (off : TapeOff h L pt) : pt ≠ b := off_ne off e fun dx q => by cases q
theorem off_at {n : Nat} (x : AtPos h pat n) (off : TapeOff h L pt) : pt ≠ pat := let ⟨_, _, e, _, _, d⟩ := x; off_ne off e fun dx q => by rw [d] at q; cases q
theorem at_fresh {n : Nat} (x : AtPos h pat n) (f : h.get? b = none) : b ≠ pat := fun q => by
  obtain ⟨t, o, e, _⟩ := x
  rw [← q, f] at e; cases e
theorem none_back (k : ∀ o, h.get? b = some o → h'.get? b = some o) (f : h'.get? b = none) : h.get? b = none := by
  cases q : h.get? b with
  | none => rfl
  | some o => have := k o q; rw [f] at this; cases this
end
section
variable {Y : Sys} {T : Tab} {k : Nat}
theorem readall_ok (Ok : SysOk Y) (TO : TabOk Y k T) (hlen : T.F (Str.ofString "len") = none) (hM : ∀ n : Nat, 1 ≤ n → n ≤ 4 → T.M fmtS [.int n, .int ((n : Int) - 1)] = some (wB n)) (P : Params) (SO : StreamOk Y P)
    (N171 : FnAt Y 171 (fdOf 171 P) (bodyOf 171 P) [Str.ofString "octets"]) (N75 : FnAt Y 75 (fdOf 75 P) (bodyOf 75 P) [Str.ofString "f"]) (N82 : FnAt Y 82 (fdOf 82 P) (bodyOf 82 P) [Str.ofString "f"])
    (N96 : FnAt Y 96 (fdOf 96 P) (bodyOf 96 P) [Str.ofString "self", Str.ofString "value"]) (N124 : FnAt Y 124 (fdOf 124 P) (bodyOf 124 P) [Str.ofString "octets", Str.ofString "at"])
    (mg75 : Y.mg (Str.ofString "read_uint1") = some (.ref 75)) (mg82 : Y.mg (Str.ofString "read_bytes1") = some (.ref 82)) (mg124 : Y.mg (Str.ofString "_law_stream") = some (.ref 124)) (mgE : Y.mg (Str.ofString "_Example") = some (.ref 99)) : FnX Y (k + 4) 171 sReadAll := by
  intro A s hid l args ds Q E R hfr Fl g H rep hsp
  obtain ⟨bs, fin, w, rfl, htp, hf6, hb30, hb256, hQ⟩ := readall_spec hsp
  clear hsp
  cases rep with
  | cons ra rep =>
  cases rep
  refine Rep.bytesE ra fun tB => ?_
  clear ra
  refine fn_raw Ok N171 R g H rfl fun env s₁ sm kp fL fC Fr eF S0 hv => ?_
  have BF := bfr_of Ok Fl g Fr eF fL fC
  obtain ⟨h1, tk1, rfl⟩ := sm
  change (∀ b o, s.heap.get? b = some o → h1.get? b = some o) at kp
  have vO := (hv (Str.ofString "octets") (.bytes (bOf bs) tB) (.head _)).2
  change VarAt env h1 _ _ at vO
  have hhA : (A.deeper env).handled = none := (R.deeper env).h
  have stT : (fdOf 171 P).scope.names.lookup (Str.ofString "tape") = some .local := by with_unfolding_all rfl
  have stI : (fdOf 171 P).scope.names.lookup (Str.ofString "items") = some .local := by with_unfolding_all rfl
  have stE : (fdOf 171 P).scope.names.lookup (Str.ofString "err") = some .local := by with_unfolding_all rfl
  have hgS : globalKind (fdOf 171 P).scope (Str.ofString "_law_stream") = true := by with_unfolding_all rfl
  have hgB : globalKind (fdOf 171 P).scope (Str.ofString "read_bytes1") = true := by with_unfolding_all rfl
  have hgV : globalKind (fdOf 171 P).scope (Str.ofString "ValueError") = true := by with_unfolding_all rfl
  have hint : interactive env = false := by unfold interactive; rw [S0.V.kind]; rfl
  have dO : (Str.ofString "octets" == ("__debug__" : Str)) = false := by kernel_rfl!
  have dT : (Str.ofString "tape" == ("__debug__" : Str)) = false := by kernel_rfl!
  have dI : (Str.ofString "items" == ("__debug__" : Str)) = false := by kernel_rfl!
  have dE : (Str.ofString "err" == ("__debug__" : Str)) = false := by kernel_rfl!
  have nTI : Str.ofString "tape" ≠ Str.ofString "items" := ne_of_beq_false (by kernel_rfl!)
  have nIE : Str.ofString "items" ≠ Str.ofString "err" := ne_of_beq_false (by kernel_rfl!)
  have hfn : ∀ (a : Addr) {fd : FuncData} {body : List Stmt} {names : List Str}, FnAt Y a fd body names → ∀ hh, Y.G hh → ∃ oc od fd sl, hh.get? a = some ⟨oc, od, .func fd, sl⟩ := fun a fd body names N hh gh => by
    obtain ⟨o, e, d, _⟩ := N.at_ hh gh
    exact ⟨o.cls, o.dict, _, o.slots, by rw [e, ← d]⟩
  have live_ne : ∀ b o, s.heap.get? b = some o → b ≠ env.locals := fun b o e => by rintro rfl; rw [fL] at e; cases e
  conv in (bodyOf 171 P) => whnf
  -- tape = _law_stream(octets, [0])
  refine wpAny_execs_cons (wpAny_Assign_Name (wpAny_Call_NameR (load_glob (s := { s with heap := h1, toks := tk1 }) Ok S0.V S0.g hgS (by kernel_rfl!) mg124 (callWith_F (hfn 124 N124 _ S0.g) (spliced_more (load_var (s := { s with heap := h1, toks := tk1 }) S0.V dO vO (spliced_more (List_ (spliced_more (wpAny_Constant_int (spliced_none (wpAny_newList ?_ (show 1 ≤ sizeLine by decide)))) rfl)) rfl)) rfl) rfl rfl))) rfl)
  have kk1 : ∀ b o, h1.get? b = some o → (h1.push { cls := .type "list", data := .seq #[.int 0 tk1] }).get? b = some o := fun b o e => Heap.get?_push_of_some _ e
  have g1 := Ok.mono _ _ S0.g kk1
  have S1 : Raw Y (fdOf 171 P).scope env hid (h1.push { cls := .type "list", data := .seq #[.int 0 tk1] }) := S0.up Ok (Kp.of kk1) g1
  have fP : h1.get? h1.objs.size = none := get_size _
  generalize hpt : h1.objs.size = pat at fP
  have fPs : s.heap.get? pat = none := none_back (kp pat) fP
  have L1 : AtPos (h1.push { cls := .type "list", data := .seq #[.int 0 tk1] }) pat 0 := ⟨tk1, _, by rw [← hpt]; exact Heap.get?_push_size _ rfl, rfl, 0, rfl⟩
  have bp : Y.base.get? pat = none := Ok.fresh _ _ g fPs
  have hp : hid pat = false := H.fresh fPs
  refine spliced_none ⟨hfn 124 N124 _ g1, ?_⟩
  show wpAny (model Y.prog Y.w) (A.deeper env) (call (.ref 124) [.bytes (bOf bs) tB, .ref pat]) _ _ { s with heap := h1.push { cls := .type "list", data := .seq #[.int 0 tk1] }, toks := _ }
  generalize hq1 : h1.push { cls := .type "list", data := .seq #[.int 0 tk1] } = h1' at kk1 g1 S1 L1 ⊢
  refine stream_ok (k := k) (s := { s with heap := h1', toks := _ }) Ok P SO N96 N124 mgE (R.deeper env) g1 S1.H L1 fun h2 tk2 pt k2 g2 fpt TA2 off2 => ?_
  change (∀ b o, b ≠ Y.P → h1'.get? b = some o → h2.get? b = some o) at k2
  change h1'.get? pt = none at fpt
  have S2 : Raw Y (fdOf 171 P).scope env hid h2 := S1.up Ok k2 g2
  have kq2 : Kp Y.P s.heap h2 := fun b o hb e => k2 b o hb (kk1 b o (kp b o e))
  have patP : pat ≠ Y.P := let ⟨t, il⟩ := L1; list_notP Ok g1 il
  have L2 : AtPos h2 pat 0 := let ⟨t, il⟩ := L1; ⟨t, il.at fun o e => k2 pat o patP e⟩
  refine raw_storeL (s := { s with heap := h2, toks := tk2 }) Ok S2 stT fun h3 tk3 S3 kk3 vT3 vo3 => ?_
  have patL : pat ≠ env.locals := ns_fresh S0.ns fP
  have kq3 : Kp Y.P s.heap h3 := fun b o hb e => kk3 b o (live_ne b o e) (kq2 b o hb e)
  have L3 : AtPos h3 pat 0 := let ⟨t, il⟩ := L2; ⟨t, il.at fun o e => kk3 pat o patL e⟩
  have offL : TapeOff h2 env.locals pt := by
    obtain ⟨m, o, es, ep, e, _⟩ := S1.ns
    exact off2 _ o e
  have TA3 : TapeAt Y P h3 pt pat (bOf bs) := TA2.but kk3 offL (ns_dict S2.ns)
  have off3 : TapeOff h3 env.locals pt := offL.up fun o e => kk3 _ _ (off_ns S2.ns offL) e
  clear TA2 L2 S2 kq2 k2 g2 off2 offL kk1 g1 S1 L1 hq1 fpt
  -- items = []
  refine wpAny_execs_cons (wpAny_Assign_Name (List_ (spliced_none (wpAny_newList ?_ (Nat.zero_le _)))) rfl)
  have kk4 : ∀ b o, h3.get? b = some o → (h3.push { cls := .type "list", data := .seq #[] }).get? b = some o := fun b o e => Heap.get?_push_of_some _ e
  have g4 := Ok.mono _ _ S3.g kk4
  have S4 : Raw Y (fdOf 171 P).scope env hid (h3.push { cls := .type "list", data := .seq #[] }) := S3.up Ok (Kp.of kk4) g4
  have fI : h3.get? h3.objs.size = none := get_size _
  show wpAny (model Y.prog Y.w) (A.deeper env) (storeName env (Str.ofString "items") (.ref h3.objs.size)) _ _ { s with heap := h3.push { cls := .type "list", data := .seq #[] }, toks := tk3 }
  generalize hI : h3.objs.size = I at fI
  have fIs : s.heap.get? I = none := none_back (fun o => kq3 I o fun q => by
    obtain ⟨ps, hP⟩ := Ok.tab _ S3.g
    rw [q, hP] at fI; cases fI) fI
  have bI : Y.base.get? I = none := Ok.fresh _ _ g fIs
  have hhI : hid I = false := H.fresh fIs
  have iI : IsL (h3.push { cls := .type "list", data := .seq #[] }) I #[] 0 := by rw [← hI]; exact Heap.get?_push_size _ rfl
  have vT4 := vT3.up Ok S3.g (Kp.of kk4)
  have L4 : AtPos (h3.push { cls := .type "list", data := .seq #[] }) pat 0 := let ⟨t, il⟩ := L3; ⟨t, il.at fun o e => kk4 pat o e⟩
  have TA4 := TA3.kpt Ok S3.g L3 (fun b o _ _ e => kk4 b o e)
  have off4 : TapeOff (h3.push { cls := .type "list", data := .seq #[] }) env.locals pt := off3.up fun o e => kk4 _ _ e
  generalize hq4 : h3.push { cls := .type "list", data := .seq #[] } = h4 at kk4 g4 S4 iI vT4 L4 TA4 off4 ⊢
  refine raw_storeL (s := { s with heap := h4, toks := tk3 }) Ok S4 stI fun h5 tk5 S5 kk5 vI5 vo5 => ?_
  have IL : I ≠ env.locals := ns_fresh S3.ns fI
  have kq5 : Kp Y.P s.heap h5 := fun b o hb e => kk5 b o (live_ne b o e) (kk4 b o (kq3 b o hb e))
  have L5 : AtPos h5 pat 0 := let ⟨t, il⟩ := L4; ⟨t, il.at fun o e => kk5 pat o patL e⟩
  have TA5 : TapeAt Y P h5 pt pat (bOf bs) := TA4.but kk5 off4 (ns_dict S4.ns)
  have off5 : TapeOff h5 env.locals pt := off4.up fun o e => kk5 _ _ (off_ns S4.ns off4) e
  have iI5 : IsL h5 I #[] 0 := kk5 _ _ IL iI
  have vT5 := vo5 _ _ nTI vT4
  have hIp : I ≠ pat := at_fresh L3 fI
  have IP : I ≠ Y.P := isl_notP Ok S5.g iI5
  clear TA4 L4 S4 kk4 g4 kk5 iI off4 vT4 vo5 hq4 hI fI TA3 L3 off3 S3 kq3 kk3 vT3 vo3
  have hszB : (bOf bs).size ≤ 100 := by rw [bOf_size]; (first | lia | omega)
  -- the handler's suite
  have hand : ∀ (h6 h8 : Heap) (tk8 : Tok) (t7 : Tok) (t8 e : Addr) (w : Str) (vs : List Value) (n : Nat) (done : List (List Nat)) (A' : Around) (E' : Value → Shared → Prop) (pa pb pc pd pe pf : Pos) (kk : Nat) (R' : Value → Shared → Prop) (E'' : Value → Shared → Prop),
      IsL h6 I vs.toArray n → RepL (fun _ => none) vs (done.map dB) → VarAt env h6 (Str.ofString "items") (.ref I) → Kp Y.P s.heap h6 → KpC Y env l pat h6 h8 → Raw Y (fdOf 171 P).scope env hid h8 → VarAt env h8 (Str.ofString "err") (.ref e) → (∀ z w, z ≠ Str.ofString "err" → VarAt env h6 z w → VarAt env h8 z w) → ExcIs h8 hid e t8 [.str w t7] →
      (∀ h' tk v, KpS Y l s.heap h' → Y.G h' → Rep (vis h' hid) v (.tuple [.list (done.map dB), .tuple [.str w]]) → R' v { s with heap := h', toks := tk }) →
      wpAny (model Y.prog Y.w) A' (execs [.Return (some (.Tuple [.Name (Str.ofString "items") pa, .Attribute (.Name (Str.ofString "err") pb) (Str.ofString "args") pc] kk pd)) pe] env)
        (fun f s₄ => wpAny (model Y.prog Y.w) (A.deeper env) (do PySem.bindName env (Str.ofString "err") .none; unbindBehindTheSuite env (Str.ofString "err") pf) (fun _ s₅ => match f with | .ret v => R' v s₅ | _ => False) E'' s₄) E' { s with heap := h8, toks := tk8 } := by
    intro h6 h8 tk8 t7 t8 e w vs n done A' E' pa pb pc pd pe pf kk R' E'' iI6 rv vI6 kq6 kc S8 vN8 vo8 ex8 hR
    obtain ⟨oe, ws, hoe, hoec, hoed, hoe0⟩ := ex8.there
    obtain ⟨ot, nt, hot, hotc, hotd⟩ := ex8.tup
    have ht8 := ex8.seen
    have vI8 := vo8 _ _ nIE vI6
    refine wpAny_execs_cons (wpAny_Return_some (Tuple_ (spliced_more (load_var (s := { s with heap := h8, toks := tk8 }) S8.V dI vI8 (spliced_more (Attribute_name (load_var (s := { s with heap := h8, toks := tk8 }) S8.V dE vN8 (args_attr F.excAttr_ValueError hoe hoec hoed hoe0 (spliced_none (wpAny_newTuple ?_ (show 2 ≤ sizeLine by decide)))))) rfl)) rfl)))
    have kk9 : ∀ b o, h8.get? b = some o → (h8.push { cls := .type "tuple", data := .seq #[.ref I, .ref t8] }).get? b = some o := fun b o e => Heap.get?_push_of_some _ e
    have fT : h8.get? h8.objs.size = none := get_size _
    have hhT : hid h8.objs.size = false := S8.H.fresh fT
    have eT : (h8.push { cls := .type "tuple", data := .seq #[.ref I, .ref t8] }).get? h8.objs.size = some { cls := .type "tuple", data := .seq #[.ref I, .ref t8] } := Heap.get?_push_size _ rfl
    have g9 := Ok.mono _ _ S8.g kk9
    have S9 : Raw Y (fdOf 171 P).scope env hid (h8.push { cls := .type "tuple", data := .seq #[.ref I, .ref t8] }) := S8.up Ok (Kp.of kk9) g9
    show wpAny (model Y.prog Y.w) (A.deeper env) (do PySem.bindName env (Str.ofString "err") .none; unbindBehindTheSuite env (Str.ofString "err") pf) (fun _ s₅ => R' (.ref h8.objs.size) s₅) _ { s with heap := h8.push { cls := .type "tuple", data := .seq #[.ref I, .ref t8] }, toks := _ }
    generalize h8.objs.size = tt at fT hhT eT ⊢
    generalize h8.push { cls := .type "tuple", data := .seq #[.ref I, .ref t8] } = h9 at kk9 eT g9 S9 ⊢
    obtain ⟨m9, n9⟩ := S9.ns
    have kl : env.kindOf (Str.ofString "err") = some .local := by unfold Env.kindOf; rw [S0.V.sce]; exact stE
    refine wpAny_nameGoes (s := { s with heap := h9, toks := _ }) kl n9 (by rw [S0.V.kind]; rfl) fun h10 m10 n10 sb => ?_
    have kk10 : ∀ b o, b ≠ env.locals → h9.get? b = some o → h10.get? b = some o := fun b o hb e => (sb.2 b hb).trans e
    have g10 : Y.G h10 := Ok.chg _ _ [env.locals] g9 (mem1E ⟨S9.V.baseL, ns_notP Ok g9 n9, ns_notCode n9⟩) fun b o hb e => kk10 b o (nm1 hb) e
    obtain ⟨m8, n8⟩ := S8.ns
    have tL : t8 ≠ env.locals := fun q => by
      obtain ⟨o, es, ep, e2, d2, _⟩ := n8
      rw [← q, hot] at e2; cases e2; rw [hotd] at d2; cases d2
    have ttL : tt ≠ env.locals := ns_fresh ⟨m8, n8⟩ fT
    have iI8 : IsL h8 I vs.toArray n := (kc I _ IP hIp IL iI6).1 (fun hb => by
      have := Fl.keeps (h' := h6) (fun b o hb e => kq6 b o (BF.apart b hb).2.2 e)
      have := this.isDat hb _ iI6
      cases this)
    refine hR h10 _ _ (fun b o hP eo => ?_) g10 (.tuple (vis_of (kk10 _ _ ttL eT) hhT) rfl rfl (.cons (.list (vis_of (kk10 _ _ IL (kk9 _ _ iI8)) hhI) rfl rfl (rv.mono fun b o _ e => by cases e)) (.cons (.tuple (vis_of (kk10 _ _ tL (kk9 _ _ hot)) ht8) hotc hotd (.cons (.str ..) .nil)) .nil)))
    obtain ⟨c1, sl, c2⟩ := kc b o hP (fun q => by rw [q, fPs] at eo; cases eo) (live_ne b o eo) (kq6 b o hP eo)
    exact ⟨fun hb => kk10 b o (live_ne b o eo) (kk9 b o (c1 hb)), sl, kk10 b _ (live_ne b o eo) (kk9 b _ c2)⟩
  -- the loop
  refine wpAny_execs_cons (wpAny_While ?_)
  refine codeAny_whileLoop (fun i s' => ∃ h tk done bs' vs n, i = List.length bs' ∧ s' = { s with heap := h, toks := tk } ∧ RdI Y P env hid s I pt pat bs fin w done bs' vs n h) ?_ bs.length
    ⟨h5, tk5, [], bs, [], 0, rfl, rfl, S5, kq5, vI5, vT5, TA5, off5, L5, iI5, .nil, rfl, htp⟩
  clear TA5 L5 S5 kq5 vI5 vT5 off5 iI5 htp tk5 h5
  rintro i s' ⟨h, tk, done, bs', vs, n, rfl, rfl, J⟩
  obtain ⟨S, kq, vI, vT, TA, off, L, iI, rv, hbs, htp⟩ := J
  have hdl := htp.len
  have lv : vs.length = done.length := by rw [rv.length, List.length_map]
  have Fl' : FrOk Y h l := Fl.keeps fun b o hb e => kq b o (BF.apart b hb).2.2 e
  have Fm : FrOk Y h (env :: l) := frok_me BF Fl' S
  -- the test
  have Sv : SSt Y (fdOf 171 P).scope env hid h ⟨[(Str.ofString "items", .list (done.map dB))], none, true⟩ none := S.withVars (lkE ⟨dI, _, vI, .list (vis_of iI hhI) rfl rfl (rv.mono fun b o _ e => by cases e)⟩ lkN)
  refine wpAny_isTrue_Compare1 (bindP (wpE_sound Ok TO 10 (fdOf 171 P).scope _ _ (fun d => d = .int done.length) (A.deeper env) { s with heap := h, toks := tk } env (hidO hid none) _ ?_ Sv.V Sv.g (Sv.hidO Ok) ((R.deeper env).le (by (first | lia | omega)))) fun v s6 d u r q => ?_)
  · exact eBi1 (by with_unfolding_all rfl) hlen rfl (by decide +kernel) (eName (d := .list (done.map dB)) (by with_unfolding_all rfl) (rLen (n := done.length) (by show some (List.length _) = _; rw [List.length_map]) (Nat.le_trans (by (first | lia | omega) : done.length ≤ 6) (by decide)) rfl))
  subst q
  refine Rep.intE r fun _ => ?_
  clear r
  obtain ⟨h6, tk6, rfl, k6, g6⟩ := u
  change Kp Y.P h h6 at k6
  refine wpAny_Constant_int (PySem.P.lt_int (wpAny_truthy_bool ?_))
  have dlt : decide (((done.length : Nat) : Int) < 7) = true := decide_eq_true (by (first | lia | omega))
  rw [dlt]
  show wpAny (model Y.prog Y.w) (A.deeper env) (execs [_] env) _ _ _
  refine gen_post (fun R => (∀ j h tk done bs2 vs n, j < bs'.length → j = List.length bs2 → RdI Y P env hid s I pt pat bs fin w done bs2 vs n h → R .next { s with heap := h, toks := tk }) ∧ ∀ v s', PostF Y hid l s Q v s' → R (.ret v) s') ⟨fun j h tk done bs2 vs n lt e J => ⟨j, lt, h, tk, done, bs2, vs, n, e, rfl, J⟩, fun v s' q => q⟩ fun RR hR => gen_err fun E1 => at_toks (s := s) (h := h6) fun tk6 => ?_
  have S6 : Raw Y (fdOf 171 P).scope env hid h6 := S.up Ok k6 g6
  have kq6 : Kp Y.P s.heap h6 := kq.trans k6
  have vI6 := vI.up Ok S.g k6
  have vT6 := vT.up Ok S.g k6
  have TA6 := TA.kpt Ok S.g L (fun b o n _ e => k6 b o n e)
  have off6 : TapeOff h6 env.locals pt := off.up fun o e => k6 _ _ (let ⟨_, hP⟩ := Ok.tab _ S.g; off_tab hP off) e
  have L6 : AtPos h6 pat (tape done).length := let ⟨t, il⟩ := L; ⟨t, il.at fun o e => k6 pat o patP e⟩
  have iI6 : IsL h6 I vs.toArray n := k6 _ _ IP iI
  have Fl6 : FrOk Y h6 l := Fl.keeps fun b o hb e => kq6 b o (BF.apart b hb).2.2 e
  have Fm6 : FrOk Y h6 (env :: l) := frok_me BF Fl6 S6
  clear S kq vI vT TA off L iI Fl' Fm Sv k6 g6
  have hpos : (tape done).length ≤ (bOf bs).size := by rw [bOf_size, hbs, List.length_append]; (first | lia | omega)
  have hat : (bOf bs).toList[(tape done).length]? = bs'.head?.map fun n => UInt8.ofNat n := by rw [hbs]; exact tp_at
  have hsz : (bOf bs).size = (tape done).length + bs'.length := by rw [bOf_size, hbs, List.length_append]
  have h256 : ∀ n ∈ bs', n < 256 := fun n hn => hb256 n (by rw [hbs]; exact List.mem_append_right _ hn)
  refine wpAny_execs_cons (wpAny_Try_except ?_)
  refine wpAny_execs_cons (wpAny_Expr_any (wpAny_Call_method (T := "list") (id := "list.append") rfl rfl rfl F.plainAttrs_list F.slot_list_append F.type_list_append (load_var (s := { s with heap := h6, toks := _ }) S6.V dI vI6 ⟨⟨_, iI6, rfl⟩, fun a e => by cases e; exact ⟨_, iI6, rfl⟩,
    PySem.P.append_list (wpAny_Call_NameR (load_glob (s := { s with heap := h6, toks := _ }) Ok S6.V S6.g hgB (by kernel_rfl!) mg82 (callWith_F (hfn 82 N82 _ S6.g) (spliced_more (load_var (s := { s with heap := h6, toks := _ }) S6.V dT vT6 (spliced_none ⟨hfn 82 N82 _ S6.g,
      bytes1_ok (k := k) (l := env :: l) (s := { s with heap := h6, toks := _ }) Ok TO hlen P SO.kin N75 N82 mg75 (R.deeper env) (Around.frames_deeper hfr) Fm6 S6.g S6.H TA6 L6 bp hp hszB hpos ?h1 ?h2 ?h3⟩)) rfl) rfl rfl)))⟩)) hint rfl)
  case h1 =>
    intro c hc hle h7 tk7 t7 k7 g7 L7
    obtain ⟨n0, tl, rfl, ec⟩ := head_some h256 (hat.symm.trans hc)
    rw [ec, hsz, List.length_cons] at hle
    obtain ⟨g0, mr, rfl, rfl, hg0, htp'⟩ := htp.more_of (by (first | lia | omega))
    rw [ec] at L7 ⊢
    have hgl := gate_len hg0
    have epc : (((bOf bs).toList.drop ((tape done).length + 1)).take g0.length).toArray = bOf g0 := by rw [hbs]; exact tp_piece
    rw [epc]
    change KpT Y pat h6 h7 at k7
    obtain ⟨S7, v7⟩ := raw_kpt (pat := pat) Ok S6 k7 g7 L6.dat L7.live
    have TA7 := TA6.kpt Ok S6.g L6 k7
    have off7 : TapeOff h7 env.locals pt := off6.up fun o e => k7 _ _ (let ⟨_, hP⟩ := Ok.tab _ S6.g; off_tab hP off6) (off_at L6 off6) e
    have iI7 : IsL h7 I vs.toArray n := k7 _ _ IP hIp iI6
    refine ⟨vs.toArray, n, by rw [List.size_toArray]; exact Nat.le_trans (by (first | lia | omega) : vs.length ≤ 6) (by decide), iI7, ?_⟩
    have iu := iI7.update (fun xs => xs.push (.bytes (bOf g0) t7))
    have e2 : vs.toArray.push (Value.bytes (bOf g0) t7) = (vs ++ [Value.bytes (bOf g0) t7]).toArray := by simp
    rw [e2] at iu
    have kk8 : ∀ b o, b ≠ I → h7.get? b = some o → (h7.update I (Obj.mapSeq fun xs => xs.push (.bytes (bOf g0) t7))).get? b = some o := fun b o hb eb => (Heap.get?_update_other _ _ (Ne.symm hb)).trans eb
    show wpAny (model Y.prog Y.w) (A.deeper env) (execs [] env) _ _ { s with heap := h7.update I (Obj.mapSeq fun xs => xs.push (.bytes (bOf g0) t7)), toks := _ }
    generalize hq8 : h7.update I (Obj.mapSeq fun xs => xs.push (.bytes (bOf g0) t7)) = h8 at kk8 iu ⊢
    obtain ⟨S8, v8⟩ := raw_chg (L := [I]) Ok S7 (fun b o hb e => kk8 b o (by simpa using hb) e) (fun J hJ => by
      rw [List.mem_singleton.mp hJ]
      exact ⟨isl_dat iI7, ⟨_, iu⟩, bI, isl_notP Ok S7.g iI7⟩)
    have npI : pt ≠ I := off_isl iI7 off7
    have TA8 : TapeAt Y P h8 pt pat (bOf bs) := TA7.but kk8 (TA7.off iI7 (fun es n q => by cases q)) (fun o e => by rw [iI7] at e; cases e; exact .inr ⟨_, _, rfl⟩)
    have hpI : pat ≠ I := Ne.symm hIp
    refine wpAny_execs_nil (wpAny_execs_nil (wpAny_execs_nil (hR.1 mr.length h8 _ (done ++ [g0]) mr _ _ ?_ rfl ⟨S8, fun b o hb e => ?_, v8 _ _ (v7 _ _ vI6), v8 _ _ (v7 _ _ vT6), TA8, off7.up fun o e => kk8 _ _ npI e, ?_, iu, ?_, ?_, htp'⟩)))
    · simp only [List.length_cons, List.length_append]; (first | lia | omega)
    · exact kk8 b o (fun q => by rw [q, fIs] at e; cases e) (k7 b o hb (fun q => by rw [q, fPs] at e; cases e) (kq6 b o hb e))
    · have e3 : (tape (done ++ [g0])).length = (tape done).length + 1 + g0.length := by
        rw [tape_app, tape_cons, List.length_append, List.length_cons, List.length_append]
        show _ + (g0.length + 0 + 1) = _
        (first | lia | omega)
      rw [e3]
      exact let ⟨t, il⟩ := L7; ⟨t, il.at fun o e => kk8 pat o hpI e⟩
    · rw [List.map_append]
      exact RepL.append (.cons (.bytes ..) .nil) rv
    · rw [hbs, tape_app, tape_cons]
      show tape done ++ g0.length :: (g0 ++ mr) = tape done ++ (g0.length :: (g0 ++ [])) ++ mr
      simp
  case h2 =>
    intro hc hE h7 tk7 t7 e fl7 LE
    have hdf := htp.done_of (head_none (hat.symm.trans hc))
    obtain ⟨rfl, rfl⟩ := hdf
    refine caught_as (s := { s with heap := h7, toks := tk7 }) Ok BF (Around.frames_deeper hfr) S6 Fl6 L6 fl7 LE hgV stE fun h8 tk8 t8 E' kc S8 L8 vN8 vo8 ex8 => ?_
    refine wpAny_mono (hand h6 h8 tk8 t7 t8 e _ vs n done _ E' _ _ _ _ _ _ _ (fun v s' => PostF Y hid l s Q v s') _ iI6 rv vI6 kq6 kc S8 vN8 vo8 ex8 fun h' tk v k1 k2 k3 => ⟨h', tk, rfl, k1, k2, _, k3, hQ⟩) (fun f s4 q => wpAny_mono q (fun _ s5 q5 => ?_) fun _ _ x => x) fun _ _ x => x
    cases f <;> first | exact q5.elim | exact hR.2 _ _ q5
  case h3 =>
    intro c hc hlt
    obtain ⟨n0, tl, rfl, ec⟩ := head_some h256 (hat.symm.trans hc)
    rw [ec, hsz, List.length_cons] at hlt
    obtain ⟨rfl, e1, e2, e3, rfl⟩ := htp.cut_of (by (first | lia | omega))
    subst ec
    have esz : (bOf bs).size - ((tape done).length + 1) = tl.length := by rw [hsz, List.length_cons]; (first | lia | omega)
    refine ⟨wB c.toNat, ?_, fun hE h7 tk7 t7 e fl7 LE => ?_⟩
    · have := hM c.toNat e1 e2
      have e4 : ((c.toNat : Nat) : Int) - 1 = ((tl.length : Nat) : Int) := by (first | lia | omega)
      rw [e4] at this
      rw [esz]; exact this
    refine caught_as (s := { s with heap := h7, toks := tk7 }) Ok BF (Around.frames_deeper hfr) S6 Fl6 L6 fl7 LE hgV stE fun h8 tk8 t8 E' kc S8 L8 vN8 vo8 ex8 => ?_
    refine wpAny_mono (hand h6 h8 tk8 t7 t8 e _ vs n done _ E' _ _ _ _ _ _ _ (fun v s' => PostF Y hid l s Q v s') _ iI6 rv vI6 kq6 kc S8 vN8 vo8 ex8 fun h' tk v k1 k2 k3 => ⟨h', tk, rfl, k1, k2, _, k3, hQ⟩) (fun f s4 q => wpAny_mono q (fun _ s5 q5 => ?_) fun _ _ x => x) fun _ _ x => x
    cases f <;> first | exact q5.elim | exact hR.2 _ _ q5
end
end Mine
end
section
set_option tactic.hygienic false
open PySem PySem.W PySem.Calls PyProof.Rows
namespace Mine
section
variable {prog : Program} {w : World} {A : Around} {E : Value → Shared → Prop} {s : Shared} {X X' T : PySem.Str} {t : Tok} {Q : Value → Shared → Prop} {b : Addr} {its : Array Value}
theorem mod_tup (ht : IsTup s.heap b its) (hX : X = X')
    (hm : Meets (Builtin.«str.__mod__» ⟨[.str X' t, .ref b], []⟩) (fun _ R s => IsTup s.heap b its ∧ ∀ t' k, R (.ok (.ret (.str T t'))) { s with toks := k }))
    (h : ∀ t' k, Q (.str T t') { s with toks := k }) : wpAny (model prog w) A (binaryOp .Mod (.str X t) (.ref b)) Q E s := by
  subst hX
  have hT : s.TypeIs (.ref b) "tuple" := by
    obtain ⟨o, ho, hc, _⟩ := ht
    exact ⟨o, ho, hc⟩
  exact KPt.bin_left (T := "str") (U := "tuple") (op := .Mod) (by decide) (typeIs_str s X t) hT F.fills_str_mod KPt.fills_tuple F.slot_str_mod
    (call_meets F.slot_str_mod (typeIs_str s X t) F.entry_str_mod (F.args_str_mod_2 _ _) hm ⟨ht, fun t' k => ⟨(fun e => nomatch e), h t' k⟩⟩)
/-- the words, by their two numbers -/
noncomputable def fmtT (n m : Int) : Str := Str.ofString "expected " ++ Str.ofString (toString n) ++ Str.ofString " bytes in a bytes1, but only " ++ Str.ofString (toString m) ++ Str.ofString " remain"
set_option maxHeartbeats 4000000 in
theorem fmt_g {n m : Int} {u v : Tok} (hn0 : 0 ≤ n) (hn : n < 10 ^ 10) (hm0 : 0 ≤ m) (hm : m < 10 ^ 10) (hn1 : n < 2 ^ 1920) (hm1 : m < 2 ^ 1920) (ht : IsTup s.heap b #[.int n u, .int m v]) (h : ∀ t' k, Q (.str (fmtT n m) t') { s with toks := k }) :
    wpAny (model prog w) A (binaryOp .Mod (.str (Str.ofString "expected %d bytes in a bytes1, but only %d remain") t) (.ref b)) Q E s := by
  refine' mod_tup ht ?kptF ?kptm ?_; (case kptF => kpt_eq); (case kptm => kpt_run); intro t' k
  exact h t' k
end
noncomputable def dInt : D → Option Int
  | .int n => some n
  | _ => none
theorem dInt_is {d : D} {n : Int} (h : dInt d = some n) : d = .int n := by
  cases d <;> cases h
  rfl
/-- the format that is met -/
noncomputable def fmtM0 (f : Str) (ds : List D) : Option Str := match ds with
  | [a, b] => (dInt a).bind fun n => (dInt b).bind fun m => bif f == fmtS && (decide (0 ≤ n ∧ n < 10 ^ 10) && decide (0 ≤ m ∧ m < 10 ^ 10)) then some (fmtT n m) else none
  | _ => none
@[irreducible] noncomputable def fmtM : Str → List D → Option Str := fmtM0
theorem fmtM_at (n : Nat) (h1 : 1 ≤ n) (h4 : n ≤ 4) : fmtM fmtS [.int n, .int ((n : Int) - 1)] = some (wB n) := by
  have : n = 1 ∨ n = 2 ∨ n = 3 ∨ n = 4 := by (first | lia | omega)
  rcases this with rfl | rfl | rfl | rfl <;> decide +kernel
theorem fmtM_is {f x : Str} : ∀ {ds : List D}, fmtM0 f ds = some x → ∃ n m : Int, ds = [.int n, .int m] ∧ (bif f == fmtS && (decide (0 ≤ n ∧ n < 10 ^ 10) && decide (0 ≤ m ∧ m < 10 ^ 10)) then some (fmtT n m) else none) = some x
  | [a, b], hx => by
    obtain ⟨n, ha, h2⟩ := Option.bind_eq_some_iff.mp hx
    obtain ⟨m, hb, h3⟩ := Option.bind_eq_some_iff.mp h2
    exact ⟨n, m, by rw [dInt_is ha, dInt_is hb], h3⟩
theorem bif_of {c : Bool} {a x : Str} (h : (bif c then some a else none) = some x) : c = true ∧ a = x := by
  cases c with
  | false => cases h
  | true => exact ⟨rfl, Option.some.inj h⟩
set_option tactic.hygienic true in
theorem fmtM_ok {prog : Program} {w : World} {f : Str} {ds : List D} {x : Str} (hx : fmtM f ds = some x) {A : Around} {s : Shared} {hid : Addr → Bool} {t : Tok} {v : Value} {Q : Value → Shared → Prop} {E : Value → Shared → Prop} (r : Rep (vis s.heap hid) v (.tuple ds))
    (h : ∀ t' h' tk, (∀ b o, s.heap.get? b = some o → h'.get? b = some o) → Q (.str x t') { s with heap := h', toks := tk }) : wpAny (model prog w) A (binaryOp .Mod (.str f t) v) Q E s := by
  have hq : ∀ t' k, Q (.str x t') { s with toks := k } := fun t' k => h t' s.heap k fun _ _ e => e
  clear h
  unfold fmtM at hx
  obtain ⟨n, m, rfl, hc0⟩ := fmtM_is hx
  obtain ⟨hc1, rfl⟩ := bif_of hc0
  obtain ⟨hf, hc2⟩ := Bool.and_eq_true_iff.mp hc1
  obtain ⟨h1, h2⟩ := Bool.and_eq_true_iff.mp hc2
  obtain ⟨h1, h3⟩ := of_decide_eq_true h1
  obtain ⟨h2, h4⟩ := of_decide_eq_true h2
  rw [eq_of_beq hf]
  clear hx hc0 hc1 hc2
  cases r
  rename_i a o vs nn ho hc' hd rv
  have isT : IsTup s.heap a vs.toArray := ⟨o, (vis_get ho).1, hc', nn, hd⟩
  clear hd
  cases rv with
  | cons r1 rv =>
  cases rv with
  | cons r2 rv =>
  cases rv; cases r1; cases r2
  exact fmt_g h1 h3 h2 h4 (Int.lt_of_lt_of_le h3 (by decide +kernel)) (Int.lt_of_lt_of_le h4 (by decide +kernel)) isT hq
end Mine
end
section
set_option tactic.hygienic false
open PySem PySem.W PySem.Calls PyProof.Rows
namespace Mine
/-- a def stands in the written part, with its code -/
noncomputable def fnOkIn (K : Frag) (a : Addr) : Bool := match K.lookup a with
  | some o => match o.data with
    | .func fd => match fd.code with
      | .ref c => match K.lookup c with
        | some oc => match oc.data with
          | .fields vs => match (vs[1]? : Option Value) with
            | some (.str q _) => q == fd.qualname
            | _ => false
          | _ => false
        | _ => false
      | _ => false
    | _ => false
  | _ => false
set_option tactic.hygienic true in
theorem fnOkIn_at {K : Frag} {a : Addr} {h : Heap} (e : fnOkIn K a = true) (X : K.In h) : ∃ o fd, K.lookup a = some o ∧ h.get? a = some o ∧ o.data = .func fd ∧ h.CodeRec fd.code fd.qualname := by
  unfold fnOkIn at e
  split at e
  · rename_i o h1
    split at e
    · rename_i fd h2
      split at e
      · rename_i c h3
        split at e
        · rename_i oc h4
          split at e
          · rename_i vs h5
            split at e
            · rename_i q t h6
              refine ⟨o, fd, h1, X _ _ h1, h2, c, oc, vs, t, h3, X _ _ h4, h5, ?_⟩
              rw [h6, eq_of_beq e]
            · cases e
          · cases e
        · cases e
      · cases e
    · cases e
  · cases e
theorem fnAt_of {Y : Sys} {P : Params} (X : ∀ h, Y.G h → (hd.heap_39 P).In h) {a : Addr} {names : List Str} (e1 : fnOkIn (hd.heap_39 P) a = true) (e2 : (fdOf a P).body = .stmts (bodyOf a P)) (e3 : (fdOf a P).closure = []) (e4 : (fdOf a P).globals = mainGlobals) (e5 : (fdOf a P).builtins = builtinsNs)
    (e6 : ∀ vals : List Value, vals.length = names.length → bindArgs (fdOf a P) ⟨vals, []⟩ = pure (names.zip vals)) (nd : names.Nodup) (st : names.all (storable (fdOf a P).scope) = true)
    (ncd : (fdOf a P).scope.names.all (fun p => !(p.1 == ("__classdict__" : Str))) = true) (hco : (fdOf a P).scope.isCoroutine = false) (hgen : (fdOf a P).scope.isGenerator = false) (hk : (fdOf a P).scope.kind = .function) : FnAt Y a (fdOf a P) (bodyOf a P) names := by
  refine ⟨fun h g => ?_, e2, e3, e4, e5, e6, nd, st, ncd, hco, hgen, hk⟩
  obtain ⟨o, fd, h1, h2, h3, h4⟩ := fnOkIn_at e1 (X h g)
  have : fdOf a P = fd := by
    unfold fdOf
    rw [h1]
    obtain ⟨_, _, d, _⟩ := o
    cases h3; rfl
  rw [this]
  exact ⟨o, h2, h3, h4⟩
theorem args1 {C : List Value → Prop} (h : ∀ a, C [a]) (vs : List Value) (e : vs.length = 1) : C vs := by
  cases vs with
  | nil => cases e
  | cons a r => cases r with
    | nil => exact h a
    | cons b r => cases e
theorem args2 {C : List Value → Prop} (h : ∀ a b, C [a, b]) (vs : List Value) (e : vs.length = 2) : C vs := by
  cases vs with
  | nil => cases e
  | cons a r => exact args1 (C := fun r => C (a :: r)) (h a) r (Nat.succ.inj e)
theorem args3 {C : List Value → Prop} (h : ∀ a b c, C [a, b, c]) (vs : List Value) (e : vs.length = 3) : C vs := by
  cases vs with
  | nil => cases e
  | cons a r => exact args2 (C := fun r => C (a :: r)) (h a) r (Nat.succ.inj e)
theorem at_21 {Y : Sys} {P : Params} (X : ∀ h, Y.G h → (hd.heap_39 P).In h) : FnAt Y 21 (fdOf 21 P) (bodyOf 21 P) [Str.ofString "mode"] :=
  fnAt_of X (by kernel_rfl!) (by kernel_rfl!) (by kernel_rfl!) (by kernel_rfl!) (by kernel_rfl!) (args1 fun v0 => by kernel_rfl!) (by decide +kernel) (by kernel_rfl!) (by kernel_rfl!) (by kernel_rfl!) (by kernel_rfl!) (by kernel_rfl!)
theorem at_28 {Y : Sys} {P : Params} (X : ∀ h, Y.G h → (hd.heap_39 P).In h) : FnAt Y 28 (fdOf 28 P) (bodyOf 28 P) [Str.ofString "mode"] :=
  fnAt_of X (by kernel_rfl!) (by kernel_rfl!) (by kernel_rfl!) (by kernel_rfl!) (by kernel_rfl!) (args1 fun v0 => by kernel_rfl!) (by decide +kernel) (by kernel_rfl!) (by kernel_rfl!) (by kernel_rfl!) (by kernel_rfl!) (by kernel_rfl!)
theorem at_68 {Y : Sys} {P : Params} (X : ∀ h, Y.G h → (hd.heap_39 P).In h) : FnAt Y 68 (fdOf 68 P) (bodyOf 68 P) [Str.ofString "mode"] :=
  fnAt_of X (by kernel_rfl!) (by kernel_rfl!) (by kernel_rfl!) (by kernel_rfl!) (by kernel_rfl!) (args1 fun v0 => by kernel_rfl!) (by decide +kernel) (by kernel_rfl!) (by kernel_rfl!) (by kernel_rfl!) (by kernel_rfl!) (by kernel_rfl!)
theorem at_75 {Y : Sys} {P : Params} (X : ∀ h, Y.G h → (hd.heap_39 P).In h) : FnAt Y 75 (fdOf 75 P) (bodyOf 75 P) [Str.ofString "f"] :=
  fnAt_of X (by kernel_rfl!) (by kernel_rfl!) (by kernel_rfl!) (by kernel_rfl!) (by kernel_rfl!) (args1 fun v0 => by kernel_rfl!) (by decide +kernel) (by kernel_rfl!) (by kernel_rfl!) (by kernel_rfl!) (by kernel_rfl!) (by kernel_rfl!)
theorem at_82 {Y : Sys} {P : Params} (X : ∀ h, Y.G h → (hd.heap_39 P).In h) : FnAt Y 82 (fdOf 82 P) (bodyOf 82 P) [Str.ofString "f"] :=
  fnAt_of X (by kernel_rfl!) (by kernel_rfl!) (by kernel_rfl!) (by kernel_rfl!) (by kernel_rfl!) (args1 fun v0 => by kernel_rfl!) (by decide +kernel) (by kernel_rfl!) (by kernel_rfl!) (by kernel_rfl!) (by kernel_rfl!) (by kernel_rfl!)
theorem at_96 {Y : Sys} {P : Params} (X : ∀ h, Y.G h → (hd.heap_39 P).In h) : FnAt Y 96 (fdOf 96 P) (bodyOf 96 P) [Str.ofString "self", Str.ofString "value"] :=
  fnAt_of X (by kernel_rfl!) (by kernel_rfl!) (by kernel_rfl!) (by kernel_rfl!) (by kernel_rfl!) (args2 fun v0 v1 => by kernel_rfl!) (by decide +kernel) (by kernel_rfl!) (by kernel_rfl!) (by kernel_rfl!) (by kernel_rfl!) (by kernel_rfl!)
theorem at_110 {Y : Sys} {P : Params} (X : ∀ h, Y.G h → (hd.heap_39 P).In h) : FnAt Y 110 (fdOf 110 P) (bodyOf 110 P) [Str.ofString "expected", Str.ofString "actual"] :=
  fnAt_of X (by kernel_rfl!) (by kernel_rfl!) (by kernel_rfl!) (by kernel_rfl!) (by kernel_rfl!) (args2 fun v0 v1 => by kernel_rfl!) (by decide +kernel) (by kernel_rfl!) (by kernel_rfl!) (by kernel_rfl!) (by kernel_rfl!) (by kernel_rfl!)
theorem at_117 {Y : Sys} {P : Params} (X : ∀ h, Y.G h → (hd.heap_39 P).In h) : FnAt Y 117 (fdOf 117 P) (bodyOf 117 P) [Str.ofString "x", Str.ofString "y"] :=
  fnAt_of X (by kernel_rfl!) (by kernel_rfl!) (by kernel_rfl!) (by kernel_rfl!) (by kernel_rfl!) (args2 fun v0 v1 => by kernel_rfl!) (by decide +kernel) (by kernel_rfl!) (by kernel_rfl!) (by kernel_rfl!) (by kernel_rfl!) (by kernel_rfl!)
theorem at_124 {Y : Sys} {P : Params} (X : ∀ h, Y.G h → (hd.heap_39 P).In h) : FnAt Y 124 (fdOf 124 P) (bodyOf 124 P) [Str.ofString "octets", Str.ofString "at"] :=
  fnAt_of X (by kernel_rfl!) (by kernel_rfl!) (by kernel_rfl!) (by kernel_rfl!) (by kernel_rfl!) (args2 fun v0 v1 => by kernel_rfl!) (by decide +kernel) (by kernel_rfl!) (by kernel_rfl!) (by kernel_rfl!) (by kernel_rfl!) (by kernel_rfl!)
theorem at_131 {Y : Sys} {P : Params} (X : ∀ h, Y.G h → (hd.heap_39 P).In h) : FnAt Y 131 (fdOf 131 P) (bodyOf 131 P) [Str.ofString "script"] :=
  fnAt_of X (by kernel_rfl!) (by kernel_rfl!) (by kernel_rfl!) (by kernel_rfl!) (by kernel_rfl!) (args1 fun v0 => by kernel_rfl!) (by decide +kernel) (by kernel_rfl!) (by kernel_rfl!) (by kernel_rfl!) (by kernel_rfl!) (by kernel_rfl!)
theorem at_138 {Y : Sys} {P : Params} (X : ∀ h, Y.G h → (hd.heap_39 P).In h) : FnAt Y 138 (fdOf 138 P) (bodyOf 138 P) [Str.ofString "kind", Str.ofString "rights"] :=
  fnAt_of X (by kernel_rfl!) (by kernel_rfl!) (by kernel_rfl!) (by kernel_rfl!) (by kernel_rfl!) (args2 fun v0 v1 => by kernel_rfl!) (by decide +kernel) (by kernel_rfl!) (by kernel_rfl!) (by kernel_rfl!) (by kernel_rfl!) (by kernel_rfl!)
theorem at_145 {Y : Sys} {P : Params} (X : ∀ h, Y.G h → (hd.heap_39 P).In h) : FnAt Y 145 (fdOf 145 P) (bodyOf 145 P) [Str.ofString "mode", Str.ofString "own", Str.ofString "state"] :=
  fnAt_of X (by kernel_rfl!) (by kernel_rfl!) (by kernel_rfl!) (by kernel_rfl!) (by kernel_rfl!) (args3 fun v0 v1 v2 => by kernel_rfl!) (by decide +kernel) (by kernel_rfl!) (by kernel_rfl!) (by kernel_rfl!) (by kernel_rfl!) (by kernel_rfl!)
theorem at_152 {Y : Sys} {P : Params} (X : ∀ h, Y.G h → (hd.heap_39 P).In h) : FnAt Y 152 (fdOf 152 P) (bodyOf 152 P) [Str.ofString "mode", Str.ofString "own", Str.ofString "state"] :=
  fnAt_of X (by kernel_rfl!) (by kernel_rfl!) (by kernel_rfl!) (by kernel_rfl!) (by kernel_rfl!) (args3 fun v0 v1 v2 => by kernel_rfl!) (by decide +kernel) (by kernel_rfl!) (by kernel_rfl!) (by kernel_rfl!) (by kernel_rfl!) (by kernel_rfl!)
theorem at_159 {Y : Sys} {P : Params} (X : ∀ h, Y.G h → (hd.heap_39 P).In h) : FnAt Y 159 (fdOf 159 P) (bodyOf 159 P) [Str.ofString "row", Str.ofString "own"] :=
  fnAt_of X (by kernel_rfl!) (by kernel_rfl!) (by kernel_rfl!) (by kernel_rfl!) (by kernel_rfl!) (args2 fun v0 v1 => by kernel_rfl!) (by decide +kernel) (by kernel_rfl!) (by kernel_rfl!) (by kernel_rfl!) (by kernel_rfl!) (by kernel_rfl!)
theorem at_164 {Y : Sys} {P : Params} (X : ∀ h, Y.G h → (hd.heap_39 P).In h) : FnAt Y 164 (fdOf 164 P) (bodyOf 164 P) [Str.ofString "number"] :=
  fnAt_of X (by kernel_rfl!) (by kernel_rfl!) (by kernel_rfl!) (by kernel_rfl!) (by kernel_rfl!) (args1 fun v0 => by kernel_rfl!) (by decide +kernel) (by kernel_rfl!) (by kernel_rfl!) (by kernel_rfl!) (by kernel_rfl!) (by kernel_rfl!)
theorem at_171 {Y : Sys} {P : Params} (X : ∀ h, Y.G h → (hd.heap_39 P).In h) : FnAt Y 171 (fdOf 171 P) (bodyOf 171 P) [Str.ofString "octets"] :=
  fnAt_of X (by kernel_rfl!) (by kernel_rfl!) (by kernel_rfl!) (by kernel_rfl!) (by kernel_rfl!) (args1 fun v0 => by kernel_rfl!) (by decide +kernel) (by kernel_rfl!) (by kernel_rfl!) (by kernel_rfl!) (by kernel_rfl!) (by kernel_rfl!)
theorem at_178 {Y : Sys} {P : Params} (X : ∀ h, Y.G h → (hd.heap_39 P).In h) : FnAt Y 178 (fdOf 178 P) (bodyOf 178 P) [Str.ofString "gates"] :=
  fnAt_of X (by kernel_rfl!) (by kernel_rfl!) (by kernel_rfl!) (by kernel_rfl!) (by kernel_rfl!) (args1 fun v0 => by kernel_rfl!) (by decide +kernel) (by kernel_rfl!) (by kernel_rfl!) (by kernel_rfl!) (by kernel_rfl!) (by kernel_rfl!)
theorem at_183 {Y : Sys} {P : Params} (X : ∀ h, Y.G h → (hd.heap_39 P).In h) : FnAt Y 183 (fdOf 183 P) (bodyOf 183 P) [Str.ofString "told", Str.ofString "gates"] :=
  fnAt_of X (by kernel_rfl!) (by kernel_rfl!) (by kernel_rfl!) (by kernel_rfl!) (by kernel_rfl!) (args2 fun v0 v1 => by kernel_rfl!) (by decide +kernel) (by kernel_rfl!) (by kernel_rfl!) (by kernel_rfl!) (by kernel_rfl!) (by kernel_rfl!)
theorem at_188 {Y : Sys} {P : Params} (X : ∀ h, Y.G h → (hd.heap_39 P).In h) : FnAt Y 188 (fdOf 188 P) (bodyOf 188 P) [Str.ofString "gates", Str.ofString "state"] :=
  fnAt_of X (by kernel_rfl!) (by kernel_rfl!) (by kernel_rfl!) (by kernel_rfl!) (by kernel_rfl!) (args2 fun v0 v1 => by kernel_rfl!) (by decide +kernel) (by kernel_rfl!) (by kernel_rfl!) (by kernel_rfl!) (by kernel_rfl!) (by kernel_rfl!)
theorem at_193 {Y : Sys} {P : Params} (X : ∀ h, Y.G h → (hd.heap_39 P).In h) : FnAt Y 193 (fdOf 193 P) (bodyOf 193 P) [Str.ofString "rows"] :=
  fnAt_of X (by kernel_rfl!) (by kernel_rfl!) (by kernel_rfl!) (by kernel_rfl!) (by kernel_rfl!) (args1 fun v0 => by kernel_rfl!) (by decide +kernel) (by kernel_rfl!) (by kernel_rfl!) (by kernel_rfl!) (by kernel_rfl!) (by kernel_rfl!)
theorem at_198 {Y : Sys} {P : Params} (X : ∀ h, Y.G h → (hd.heap_39 P).In h) : FnAt Y 198 (fdOf 198 P) (bodyOf 198 P) [Str.ofString "states"] :=
  fnAt_of X (by kernel_rfl!) (by kernel_rfl!) (by kernel_rfl!) (by kernel_rfl!) (by kernel_rfl!) (args1 fun v0 => by kernel_rfl!) (by decide +kernel) (by kernel_rfl!) (by kernel_rfl!) (by kernel_rfl!) (by kernel_rfl!) (by kernel_rfl!)
theorem at_205 {Y : Sys} {P : Params} (X : ∀ h, Y.G h → (hd.heap_39 P).In h) : FnAt Y 205 (fdOf 205 P) (bodyOf 205 P) [Str.ofString "led"] :=
  fnAt_of X (by kernel_rfl!) (by kernel_rfl!) (by kernel_rfl!) (by kernel_rfl!) (by kernel_rfl!) (args1 fun v0 => by kernel_rfl!) (by decide +kernel) (by kernel_rfl!) (by kernel_rfl!) (by kernel_rfl!) (by kernel_rfl!) (by kernel_rfl!)
theorem at_210 {Y : Sys} {P : Params} (X : ∀ h, Y.G h → (hd.heap_39 P).In h) : FnAt Y 210 (fdOf 210 P) (bodyOf 210 P) [Str.ofString "after", Str.ofString "rows"] :=
  fnAt_of X (by kernel_rfl!) (by kernel_rfl!) (by kernel_rfl!) (by kernel_rfl!) (by kernel_rfl!) (args2 fun v0 v1 => by kernel_rfl!) (by decide +kernel) (by kernel_rfl!) (by kernel_rfl!) (by kernel_rfl!) (by kernel_rfl!) (by kernel_rfl!)
theorem at_215 {Y : Sys} {P : Params} (X : ∀ h, Y.G h → (hd.heap_39 P).In h) : FnAt Y 215 (fdOf 215 P) (bodyOf 215 P) [Str.ofString "script"] :=
  fnAt_of X (by kernel_rfl!) (by kernel_rfl!) (by kernel_rfl!) (by kernel_rfl!) (by kernel_rfl!) (args1 fun v0 => by kernel_rfl!) (by decide +kernel) (by kernel_rfl!) (by kernel_rfl!) (by kernel_rfl!) (by kernel_rfl!) (by kernel_rfl!)
end Mine
end
section
set_option tactic.hygienic false
open PySem PySem.W PySem.Calls PyProof.Rows
namespace Mine
/-- a def with its contract -/
structure Con (Y : Sys) (n : Nat) (f : Str) (S : Spec) (a : Addr) : Prop where
  mg : Y.mg f = some (.ref a)
  fn : FnOk Y n a S
  at_ : ∀ h, Y.G h → ∃ o fd, h.get? a = some o ∧ o.data = .func fd
theorem Con.le {Y : Sys} {n m : Nat} {f : Str} {S : Spec} {a : Addr} (c : Con Y n f S a) (h : n ≤ m) : Con Y m f S a := ⟨c.mg, c.fn.le h, c.at_⟩
theorem FnX.le {Y : Sys} {n m : Nat} {a : Addr} {S : Spec} (F : FnX Y n a S) (h : n ≤ m) : FnX Y m a S := fun A s hid l args ds Q E R => F A s hid l args ds Q E (R.le h)
theorem FnAt.func {Y : Sys} {a : Addr} {fd : FuncData} {body : List Stmt} {names : List Str} (N : FnAt Y a fd body names) : ∀ h, Y.G h → ∃ o fd, h.get? a = some o ∧ o.data = .func fd := fun h g => let ⟨o, e, d, _⟩ := N.at_ h g; ⟨o, fd, e, d⟩
theorem tabOk_list {Y : Sys} {n : Nat} {L : List (Str × Spec)} {C : Str → Option D} {M : Str → List D → Option Str} (hF : ∀ p ∈ L, ∃ a, Con Y n p.1 p.2 a)
    (hC : ∀ x d, C x = some d → ∃ v, Y.mg x = some v ∧ ∀ h hid, Y.G h → HidOk Y hid h → Rep (vis h hid) v d)
    (hM : ∀ f ds x, M f ds = some x → ∀ (A : Around) (s : Shared) (hid : Addr → Bool) (t : Tok) (v : Value) (Q : Value → Shared → Prop) (E : Value → Shared → Prop), Room 0 A → Rep (vis s.heap hid) v (.tuple ds) →
      (∀ t' h' tk, (∀ b o, s.heap.get? b = some o → h'.get? b = some o) → Q (.str x t') { s with heap := h', toks := tk }) → wpAny (model Y.prog Y.w) A (binaryOp .Mod (.str f t) v) Q E s) : TabOk Y n ⟨fun f => L.lookup f, C, M⟩ := by
  refine ⟨fun f S e => ?_, hC, hM⟩
  obtain ⟨a, c⟩ := hF (f, S) (mem_of_lookup e)
  exact ⟨a, c.mg, c.fn, c.at_⟩
noncomputable def tblC (x : Str) : Option D := if x = Str.ofString "_filemode_table" then some (.tuple (tabs.map tabD)) else none
theorem tblC_at : tblC (Str.ofString "_filemode_table") = some (.tuple (tabs.map tabD)) := by unfold tblC; exact if_pos rfl
noncomputable def lA : List (Str × Spec) := [(Str.ofString "S_IMODE", sIMODE), (Str.ofString "S_IFMT", sIFMT), (Str.ofString "three_way_cmp", sCmp), (Str.ofString "_law_gate", sGate), (Str.ofString "_law_row", sRow), (Str.ofString "_law_state", sState), (Str.ofString "_law_run", sRun), (Str.ofString "_law_cells", sCells), (Str.ofString "_law_rings", sRings), (Str.ofString "_law_marks_due", sMarksDue), (Str.ofString "_law_tape_is_told", sToldIs)]
noncomputable def lB : List (Str × Spec) := [(Str.ofString "_law_row_due", sRowDue), (Str.ofString "_law_marks", sMarks), (Str.ofString "filemode", sFilemode)] ++ lA
noncomputable def lC : List (Str × Spec) := [(Str.ofString "_law_listed", sListed)] ++ lB
noncomputable def xF (x : Str) : Option Spec := [(Str.ofString "_law_taped", sTaped), (Str.ofString "_law_halves_are_told", sHalves)].lookup x
noncomputable def xR (x : Str) : Option Spec := [(Str.ofString "_law_read_all", sReadAll)].lookup x
structure Names (Y : Sys) : Prop where
  n21 : Y.mg (Str.ofString "S_IMODE") = some (.ref 21)
  n28 : Y.mg (Str.ofString "S_IFMT") = some (.ref 28)
  n117 : Y.mg (Str.ofString "three_way_cmp") = some (.ref 117)
  n164 : Y.mg (Str.ofString "_law_gate") = some (.ref 164)
  n138 : Y.mg (Str.ofString "_law_row") = some (.ref 138)
  n159 : Y.mg (Str.ofString "_law_state") = some (.ref 159)
  n188 : Y.mg (Str.ofString "_law_run") = some (.ref 188)
  n131 : Y.mg (Str.ofString "_law_cells") = some (.ref 131)
  n205 : Y.mg (Str.ofString "_law_rings") = some (.ref 205)
  n198 : Y.mg (Str.ofString "_law_marks_due") = some (.ref 198)
  n183 : Y.mg (Str.ofString "_law_tape_is_told") = some (.ref 183)
  n145 : Y.mg (Str.ofString "_law_row_due") = some (.ref 145)
  n193 : Y.mg (Str.ofString "_law_marks") = some (.ref 193)
  n68 : Y.mg (Str.ofString "filemode") = some (.ref 68)
  n152 : Y.mg (Str.ofString "_law_listed") = some (.ref 152)
  n75 : Y.mg (Str.ofString "read_uint1") = some (.ref 75)
  n82 : Y.mg (Str.ofString "read_bytes1") = some (.ref 82)
  n99 : Y.mg (Str.ofString "_Example") = some (.ref 99)
  n110 : Y.mg (Str.ofString "unorderable_list_difference") = some (.ref 110)
  n124 : Y.mg (Str.ofString "_law_stream") = some (.ref 124)
  n171 : Y.mg (Str.ofString "_law_read_all") = some (.ref 171)
  n178 : Y.mg (Str.ofString "_law_taped") = some (.ref 178)
  n210 : Y.mg (Str.ofString "_law_halves_are_told") = some (.ref 210)
  n215 : Y.mg (Str.ofString "law") = some (.ref 215)
structure TblOk (Y : Sys) : Prop where
  tbl : ∃ v, Y.mg (Str.ofString "_filemode_table") = some v ∧ ∀ h hid, Y.G h → HidOk Y hid h → Rep (vis h hid) v (.tuple (tabs.map tabD))
theorem tblC_ok {Y : Sys} (B : TblOk Y) : ∀ x d, tblC x = some d → ∃ v, Y.mg x = some v ∧ ∀ h hid, Y.G h → HidOk Y hid h → Rep (vis h hid) v d := by
  intro x d e
  unfold tblC at e
  split at e
  · rename_i q; subst q; cases e; exact B.tbl
  · cases e
theorem fmt_all {Y : Sys} : ∀ f ds x, fmtM f ds = some x → ∀ (A : Around) (s : Shared) (hid : Addr → Bool) (t : Tok) (v : Value) (Q : Value → Shared → Prop) (E : Value → Shared → Prop), Room 0 A → Rep (vis s.heap hid) v (.tuple ds) →
      (∀ t' h' tk, (∀ b o, s.heap.get? b = some o → h'.get? b = some o) → Q (.str x t') { s with heap := h', toks := tk }) → wpAny (model Y.prog Y.w) A (binaryOp .Mod (.str f t) v) Q E s :=
  fun f ds x hx A s hid t v Q E _ r h => fmtM_ok hx r h
section
variable {Y : Sys} {P : Params}
theorem tab0 (B : TblOk Y) (n : Nat) : TabOk Y n ⟨fun f => ([] : List (Str × Spec)).lookup f, tblC, fmtM⟩ := tabOk_list (fun p hp => by cases hp) (tblC_ok B) fmt_all
theorem conA (Ok : SysOk Y) (X : ∀ h, Y.G h → (hd.heap_39 P).In h) (B : TblOk Y) (N : Names Y) : ∀ p ∈ lA, ∃ a, Con Y 1 p.1 p.2 a := fun p hp => by
    rcases List.mem_cons.mp hp with rfl | hp
    · exact ⟨21, N.n21, fn_ok Ok (tab0 B 0) (at_21 X) (b_imode _ P), (at_21 X).func⟩
    rcases List.mem_cons.mp hp with rfl | hp
    · exact ⟨28, N.n28, fn_ok Ok (tab0 B 0) (at_28 X) (b_ifmt _ P), (at_28 X).func⟩
    rcases List.mem_cons.mp hp with rfl | hp
    · exact ⟨117, N.n117, fn_ok Ok (tab0 B 0) (at_117 X) (b_cmp _ P), (at_117 X).func⟩
    rcases List.mem_cons.mp hp with rfl | hp
    · exact ⟨164, N.n164, fn_ok Ok (tab0 B 0) (at_164 X) (b_gate _ P (by kernel_rfl!)), (at_164 X).func⟩
    rcases List.mem_cons.mp hp with rfl | hp
    · exact ⟨138, N.n138, fn_ok Ok (tab0 B 0) (at_138 X) (b_row _ P (by kernel_rfl!)), (at_138 X).func⟩
    rcases List.mem_cons.mp hp with rfl | hp
    · exact ⟨159, N.n159, fn_ok Ok (tab0 B 0) (at_159 X) (b_state _ P), (at_159 X).func⟩
    rcases List.mem_cons.mp hp with rfl | hp
    · exact ⟨188, N.n188, fn_ok Ok (tab0 B 0) (at_188 X) (b_run _ P), (at_188 X).func⟩
    rcases List.mem_cons.mp hp with rfl | hp
    · exact ⟨131, N.n131, fn_ok Ok (tab0 B 0) (at_131 X) (b_cells _ P (by kernel_rfl!) (by kernel_rfl!)), (at_131 X).func⟩
    rcases List.mem_cons.mp hp with rfl | hp
    · exact ⟨205, N.n205, fn_ok Ok (tab0 B 0) (at_205 X) (b_rings _ P (by kernel_rfl!)), (at_205 X).func⟩
    rcases List.mem_cons.mp hp with rfl | hp
    · exact ⟨198, N.n198, fn_ok Ok (tab0 B 0) (at_198 X) (b_marksDue _ P (by kernel_rfl!)), (at_198 X).func⟩
    rcases List.mem_cons.mp hp with rfl | hp
    · exact ⟨183, N.n183, fn_ok Ok (tab0 B 0) (at_183 X) (b_toldIs _ P (by kernel_rfl!) (by kernel_rfl!) (by kernel_rfl!) fmtM_at), (at_183 X).func⟩
    cases hp
theorem tabA (Ok : SysOk Y) (X : ∀ h, Y.G h → (hd.heap_39 P).In h) (B : TblOk Y) (N : Names Y) : TabOk Y 1 ⟨fun f => lA.lookup f, tblC, fmtM⟩ := tabOk_list (conA Ok X B N) (tblC_ok B) fmt_all
theorem conB (Ok : SysOk Y) (X : ∀ h, Y.G h → (hd.heap_39 P).In h) (B : TblOk Y) (N : Names Y) : ∀ p ∈ lB, ∃ a, Con Y 2 p.1 p.2 a := fun p hp => by
    rcases List.mem_cons.mp hp with rfl | hp
    · exact ⟨145, N.n145, fn_ok Ok (tabA Ok X B N) (at_145 X) (b_rowDue _ P (by kernel_rfl!)), (at_145 X).func⟩
    rcases List.mem_cons.mp hp with rfl | hp
    · exact ⟨193, N.n193, fn_ok Ok (tabA Ok X B N) (at_193 X) (b_marks _ P (by kernel_rfl!) (by kernel_rfl!)), (at_193 X).func⟩
    rcases List.mem_cons.mp hp with rfl | hp
    · exact ⟨68, N.n68, fn_ok_enum Ok (tabA Ok X B N) (at_68 X) (b_filemode _ P (by kernel_rfl!) tblC_at), (at_68 X).func⟩
    obtain ⟨a, c⟩ := conA Ok X B N p hp
    exact ⟨a, c.le (by decide)⟩
theorem tabB (Ok : SysOk Y) (X : ∀ h, Y.G h → (hd.heap_39 P).In h) (B : TblOk Y) (N : Names Y) : TabOk Y 2 ⟨fun f => lB.lookup f, tblC, fmtM⟩ := tabOk_list (conB Ok X B N) (tblC_ok B) fmt_all
theorem conC (Ok : SysOk Y) (X : ∀ h, Y.G h → (hd.heap_39 P).In h) (B : TblOk Y) (N : Names Y) : ∀ p ∈ lC, ∃ a, Con Y 5 p.1 p.2 a := fun p hp => by
    rcases List.mem_cons.mp hp with rfl | hp
    · exact ⟨152, (⟨N.n152, fn_ok Ok (tabB Ok X B N) (at_152 X) (b_listed _ P (by kernel_rfl!) (by kernel_rfl!) (by kernel_rfl!) (by kernel_rfl!)), (at_152 X).func⟩ : Con Y 3 _ _ _).le (by decide)⟩
    obtain ⟨a, c⟩ := conB Ok X B N p hp
    exact ⟨a, c.le (by decide)⟩
theorem tabC (Ok : SysOk Y) (X : ∀ h, Y.G h → (hd.heap_39 P).In h) (B : TblOk Y) (N : Names Y) : TabOk Y 5 ⟨fun f => lC.lookup f, tblC, fmtM⟩ := tabOk_list (conC Ok X B N) (tblC_ok B) fmt_all
theorem xtabR (Ok : SysOk Y) (SO : StreamOk Y P) (B : TblOk Y) (N : Names Y) : XTab Y 4 xR := by
  refine ⟨fun f S e => ?_⟩
  rcases List.mem_cons.mp (mem_of_lookup e) with e | e
  · cases e
    exact ⟨171, N.n171, readall_ok (k := 0) Ok (tab0 B 0) rfl fmtM_at P SO (at_171 SO.kin) (at_75 SO.kin) (at_82 SO.kin) (at_96 SO.kin) (at_124 SO.kin) N.n75 N.n82 N.n124 N.n99, (at_171 SO.kin).func⟩
  · cases e
theorem xtabF (Ok : SysOk Y) (SO : StreamOk Y P) (B : TblOk Y) (N : Names Y) : XTab Y 5 xF := by
  refine ⟨fun f S e => ?_⟩
  rcases List.mem_cons.mp (mem_of_lookup e) with e | e
  · cases e
    exact ⟨178, N.n178, fnx_ok Ok (tab0 B 4) (xtabR Ok SO B N) (at_178 SO.kin) (bB_taped _ xR P rfl rfl (by kernel_rfl!)), (at_178 SO.kin).func⟩
  · rcases List.mem_cons.mp e with e | e
    · cases e
      exact ⟨210, N.n210, (halves_ok (k := 1) Ok (tab0 B 1) P (at_210 SO.kin) (unord_ok (k := 0) Ok (tab0 B 0) P (at_110 SO.kin)) N.n110 (at_110 SO.kin).func rfl).le (by decide), (at_210 SO.kin).func⟩
    · cases e
theorem tabG : TabG ⟨fun f => lC.lookup f, tblC, fmtM⟩ := ⟨by kernel_rfl!, by kernel_rfl!, by kernel_rfl!, by kernel_rfl!, by kernel_rfl!, by kernel_rfl!, by kernel_rfl!, by kernel_rfl!, by kernel_rfl!, by kernel_rfl!, by kernel_rfl!, by kernel_rfl!, by kernel_rfl!, by kernel_rfl!⟩
/-- the law's contract, as its code's -/
theorem law_code (Ok : SysOk Y) (SO : StreamOk Y P) (B : TblOk Y) (N : Names Y) {A : Around} {s : Shared} {hid : Addr → Bool} {args : List Value} {ns : List Int} (R : Room 6 A) (hfr : A.frames = some []) (g : Y.G s.heap) (H : HidOk Y hid s.heap)
    (r : RepL (vis s.heap hid) args [.list (ns.map .int)]) (hl : ns.length ≤ 63) :
    codeAny (model Y.prog Y.w) A (.call (.ref 215) ⟨args, []⟩) (fun r s' => ∃ h' tk, r = .ok (.ret (.bool true)) ∧ s' = { s with heap := h', toks := tk } ∧ Kp Y.P s.heap h' ∧ Y.G h') s := by
  have Fl : FrOk Y s.heap [] := fun e he => by cases he
  obtain ⟨hl2, p⟩ := bB_law ⟨fun f => lC.lookup f, tblC, fmtM⟩ xF P tabG (by kernel_rfl!) (by kernel_rfl!) (by kernel_rfl!) (by kernel_rfl!) (by kernel_rfl!) [.list (ns.map .int)] (fun d => d = .bool true) ⟨ns, hl, rfl, rfl⟩
  refine fn_rawC Ok (at_215 SO.kin) R g H (by rw [r.length]; rfl) fun env s₁ sm kp fL fC Fr eF _ S0 hv => ?_
  have BF := bfr_of Ok Fl g Fr eF fL fC
  have Fl1 : FrOk Y s₁.heap [] := fun e he => by cases he
  have S1 : SSt Y (fdOf 215 P).scope env hid s₁.heap ⟨[Str.ofString "script"].zip [.list (ns.map .int)], none, true⟩ none := S0.withVars fun x d hx => by
    obtain ⟨v, hv', rv⟩ := zip_rep (names := [Str.ofString "script"]) r hx
    obtain ⟨q1, q2⟩ := hv x v hv'
    exact ⟨q1, v, q2, rv.up H.p (Kp.of kp)⟩
  refine wpAny_mono (wpB_sound (s₀ := s₁) Ok (tabC Ok SO.kin B N) (xtabF Ok SO B N) BF (R.deeper env) (Around.frames_deeper hfr) _ _ none s₁ p S1 Fl1 ⟨s₁.heap, s₁.toks, rfl⟩ (fun b o _ _ e => ⟨fun _ => e, o.slots, e⟩) Lv.refl fun a e => by cases e) (fun fl s' q => ?_) fun _ _ x => x
  obtain ⟨h1, tk1, rfl⟩ := sm
  obtain ⟨h', tk, σ', O', f, rfl, kx, S', fr, q⟩ := q
  cases f <;> first | exact q.elim | skip
  cases fl <;> first | exact fr.elim | skip
  rename_i v
  have q : _ = D.bool true := q
  subst q
  have fr : Rep (vis h' hid) v (.bool true) := fr
  refine Rep.boolE fr ?_
  refine ⟨h', tk, rfl, rfl, fun b o hP e => (kx b o hP ⟨?_, fun z hz => ?_, by simp⟩ (kp b o e)).1 (by simp [frs]), S'.g⟩
  · rintro rfl; rw [fL] at e; cases e
  · rw [fC z b hz] at e; cases e
end
end Mine
end
section
set_option tactic.hygienic false
open PySem PySem.W PySem.Calls PyProof.Rows
namespace Mine
/-- data of the written part -/
noncomputable def dataAll (f : Value → Option (D × List Addr)) : List Value → Option (List D × List Addr)
  | [] => some ([], [])
  | v :: r => match f v with
    | some (d, as) => match dataAll f r with
      | some (ds, bs) => some (d :: ds, as ++ bs)
      | none => none
    | none => none
noncomputable def dataIn (K : Frag) : Nat → Value → Option (D × List Addr)
  | 0, _ => none
  | n + 1, v => match v with
    | .int i _ => some (.int i, [])
    | .str x _ => some (.str x, [])
    | .ref a => match K.lookup a with
      | some o => match o.cls with
        | .type "tuple" => match o.data with
          | .seq vs _ => match dataAll (dataIn K n) vs.toList with
            | some (ds, as) => some (.tuple ds, a :: as)
            | none => none
          | _ => none
        | _ => none
      | none => none
    | _ => none
set_option tactic.hygienic true in
theorem dataAll_ok {f : Value → Option (D × List Addr)} {h : Heap} {hid : Addr → Bool} (hf : ∀ v d as, f v = some (d, as) → (∀ b ∈ as, ∃ o, h.get? b = some o) ∧ ((∀ b ∈ as, hid b = false) → Rep (vis h hid) v d)) :
    ∀ (vs : List Value) (ds : List D) (as : List Addr), dataAll f vs = some (ds, as) → (∀ b ∈ as, ∃ o, h.get? b = some o) ∧ ((∀ b ∈ as, hid b = false) → RepL (vis h hid) vs ds)
  | [], ds, as, e => by cases e; exact ⟨fun b hb => (by cases hb), fun _ => .nil⟩
  | v :: r, ds, as, e => by
    unfold dataAll at e
    split at e
    · rename_i d a1 h1
      split at e
      · rename_i ds' bs h2
        cases e
        obtain ⟨p1, p2⟩ := hf v d a1 h1
        obtain ⟨q1, q2⟩ := dataAll_ok hf r ds' bs h2
        exact ⟨fun b hb => (List.mem_append.mp hb).elim (p1 b) (q1 b), fun hh => .cons (p2 fun b hb => hh b (List.mem_append_left _ hb)) (q2 fun b hb => hh b (List.mem_append_right _ hb))⟩
      · cases e
    · cases e
set_option tactic.hygienic true in
theorem dataIn_ok {K : Frag} {h : Heap} {hid : Addr → Bool} (X : K.In h) : ∀ (n : Nat) (v : Value) (d : D) (as : List Addr), dataIn K n v = some (d, as) → (∀ b ∈ as, ∃ o, h.get? b = some o) ∧ ((∀ b ∈ as, hid b = false) → Rep (vis h hid) v d)
  | 0, v, d, as, e => by cases e
  | n + 1, v, d, as, e => by
    unfold dataIn at e
    split at e
    · cases e; exact ⟨fun b hb => (by cases hb), fun _ => .int ..⟩
    · cases e; exact ⟨fun b hb => (by cases hb), fun _ => .str ..⟩
    · rename_i a
      split at e
      · rename_i o h1
        split at e
        · rename_i h2
          split at e
          · rename_i vs m h3
            split at e
            · rename_i ds bs h4
              cases e
              obtain ⟨q1, q2⟩ := dataAll_ok (fun v d as e => dataIn_ok X n v d as e) vs.toList ds bs h4
              refine ⟨fun b hb => ?_, fun hh => ?_⟩
              · rcases List.mem_cons.mp hb with rfl | hb
                · exact ⟨_, X _ _ h1⟩
                · exact q1 b hb
              · exact .tuple (vis_of (X _ _ h1) (hh a (.head _))) h2 (by rw [h3]) (q2 fun b hb => hh b (.tail _ hb))
            · cases e
          · cases e
        · cases e
      · cases e
    · cases e
/-- the objects of filemode's tables -/
noncomputable def tblAs (P : Params) : List Addr := match dataIn (hd.heap_39 P) 5 (.ref 61) with
  | some (_, as) => as
  | none => []
theorem tbl_at (P : Params) : dataIn (hd.heap_39 P) 5 (.ref 61) = some (.tuple (tabs.map tabD), tblAs P) := by kernel_rfl!
theorem tblAs_P (P : Params) : (tblAs P).all (fun b => !(b == 119)) = true := by kernel_rfl!

noncomputable abbrev theProg : Program := PySem.Challenge.rw_op0060_01.row.prog
/-- the run's own system -/
noncomputable def ySys (w : World) (h₁ : Heap) (mg mb : Str → Option Value) : Sys where
  prog := theProg
  w := w
  P := 119
  G := fun h => (ghostOf h₁ [(123, 119)]).StaysIn h ∧ ∃ ps, h.get? 119 = some (tabObj ps) ∧ TabIs h ps
  mg := mg
  mb := mb
  cA := tblAs w.params
  base := ghostOf h₁ [(123, 119)]
theorem tabIs_up {h h' : Heap} {ps : Array Value} (t : TabIs h ps) (k : ∀ c o, (∃ vs q t, o.data = .fields vs ∧ vs[1]? = some (.str q t)) → h.get? c = some o → h'.get? c = some o) : TabIs h' ps := by
  rcases t with t | ⟨c, e, hc, hn⟩
  · exact .inl t
  · obtain ⟨c2, o, vs, t, e1, e2, e3, e4⟩ := hc
    exact .inr ⟨c, e, ⟨c2, o, vs, t, e1, k c2 o ⟨vs, _, t, e3, e4⟩ e2, e3, e4⟩, hn⟩
section
variable {w : World} {h₁ : Heap} {mg mb : Str → Option Value} {mean : ExcName → Option Value} {loose : List Str}
noncomputable def biL : List (Str × Value) := [(Str.ofString "len", .builtin "len"), (Str.ofString "range", .type "range"), (Str.ofString "list", .type "list"), (Str.ofString "bytes", .type "bytes"), (Str.ofString "bool", .type "bool"), (Str.ofString "isinstance", .builtin "isinstance"), (Str.ofString "enumerate", .type "enumerate"), (Str.ofString "ValueError", .type "ValueError")]
theorem biVal_mem {f : Str} {v : Value} (h : biVal f = some v) : (f, v) ∈ biL := by
  unfold biVal at h
  by_cases q : f = Str.ofString "len"
  · rw [if_pos q] at h; cases h; rw [q]; exact .head _
  rw [if_neg q] at h
  clear q
  by_cases q : f = Str.ofString "range"
  · rw [if_pos q] at h; cases h; rw [q]; exact .tail _ (.head _)
  rw [if_neg q] at h
  clear q
  by_cases q : f = Str.ofString "list"
  · rw [if_pos q] at h; cases h; rw [q]; exact .tail _ (.tail _ (.head _))
  rw [if_neg q] at h
  clear q
  by_cases q : f = Str.ofString "bytes"
  · rw [if_pos q] at h; cases h; rw [q]; exact .tail _ (.tail _ (.tail _ (.head _)))
  rw [if_neg q] at h
  clear q
  by_cases q : f = Str.ofString "bool"
  · rw [if_pos q] at h; cases h; rw [q]; exact .tail _ (.tail _ (.tail _ (.tail _ (.head _))))
  rw [if_neg q] at h
  clear q
  by_cases q : f = Str.ofString "isinstance"
  · rw [if_pos q] at h; cases h; rw [q]; exact .tail _ (.tail _ (.tail _ (.tail _ (.tail _ (.head _)))))
  rw [if_neg q] at h
  clear q
  by_cases q : f = Str.ofString "enumerate"
  · rw [if_pos q] at h; cases h; rw [q]; exact .tail _ (.tail _ (.tail _ (.tail _ (.tail _ (.tail _ (.head _))))))
  rw [if_neg q] at h
  clear q
  by_cases q : f = Str.ofString "ValueError"
  · rw [if_pos q] at h; cases h; rw [q]; exact .tail _ (.tail _ (.tail _ (.tail _ (.tail _ (.tail _ (.tail _ (.head _)))))))
  rw [if_neg q] at h
  clear q
  cases h
noncomputable def outs : List Str := startupNames ++ (looseW hd.view_39 [Str.ofString "_filemode_table"] ++ ((recsOf hd.view_39).map (·.name) ++ ((litsOf hd.view_39).map (·.1) ++ (clssOf hd.view_39 (looseW hd.view_39 [Str.ofString "_filemode_table"])).map (·.name))))
theorem outs_ok : biL.all (fun p => !outs.elem p.1) = true := by kernel_rfl!
theorem boot_ok : biL.all (fun p => !(p.1 == ("__name__" : Str)) && bootBuiltins p.1 == some p.2) = true := by kernel_rfl!
theorem bi_ok (T : Top hd.view_39 (looseW hd.view_39 [Str.ofString "_filemode_table"]) mean mg mb h₁) : ∀ f v, biVal f = some v → mg f = none ∧ mb f = some v := by
  intro f v hv
  have hm := biVal_mem hv
  have h1 := List.all_eq_true.mp outs_ok _ hm
  have h2 := List.all_eq_true.mp boot_ok _ hm
  simp only [Bool.and_eq_true, Bool.not_eq_true', beq_eq_false_iff_ne, beq_iff_eq] at h2
  have h1 : outs.elem f = false := by simpa using h1
  have h3 : f ∉ outs := fun q => by rw [List.elem_eq_true_of_mem q] at h1; cases h1
  unfold outs at h3
  simp only [List.mem_append, not_or] at h3
  exact ⟨T.free f h3.1 h3.2.1 h3.2.2.1 h3.2.2.2.1 h3.2.2.2.2, (T.builtins f h2.1).trans h2.2⟩
theorem sys_ok (hT : TabsAt [(123, 119)] h₁) (T : Top hd.view_39 (looseW hd.view_39 [Str.ofString "_filemode_table"]) mean mg mb h₁) (X : (hd.heap_39 w.params).In (ghostOf h₁ [(123, 119)])) : SysOk (ySys w h₁ mg mb) := by
  have bP : (ghostOf h₁ [(123, 119)]).get? 119 = none := hideAll_none _ (.head _)
  refine ⟨bi_ok T, fun h g => ?_, fun h h' g k => ?_, fun h h' as g ha k => ?_, fun h a g e => ?_, fun h g => ?_, fun h g => ?_, fun h g => ?_, fun h g b hb => ?_⟩
  · obtain ⟨ps, e, _⟩ := g.2; exact ⟨ps, e⟩
  · obtain ⟨g1, ps, e, t⟩ := g
    exact ⟨fun b o q => k b o (g1 b o q), ps, k _ _ e, tabIs_up t fun c o _ q => k c o q⟩
  · obtain ⟨g1, ps, e, t⟩ := g
    refine ⟨fun b o q => k b o (fun hb => ?_) (g1 b o q), ps, k _ _ (fun hb => (ha _ hb).2.1 rfl) e, tabIs_up t fun c o ⟨vs, q, t, d, hv⟩ e => k c o (fun hb => (ha _ hb).2.2 o e vs q t d hv) e⟩
    have := (ha b hb).1
    rw [show (ySys w h₁ mg mb).base.get? b = some o from q] at this; cases this
  · cases q : (ySys w h₁ mg mb).base.get? a with
    | none => rfl
    | some o => rw [g.1 a o q] at e; cases e
  · exact (ghost_ns hT T.g).keeps g.1
  · exact (ghost_ns hT T.b).keeps g.1
  · exact (ghost_top hT T).nolimit.keeps g.1
  · exact (dataIn_ok (hid := fun _ => false) (X.keeps g.1) 5 _ _ _ (tbl_at w.params)).1 b hb
theorem stream_sys (hT : TabsAt [(123, 119)] h₁) (T : Top hd.view_39 (looseW hd.view_39 [Str.ofString "_filemode_table"]) mean mg mb h₁) (X : (hd.heap_39 w.params).In (ghostOf h₁ [(123, 119)])) : StreamOk (ySys w h₁ mg mb) w.params := by
  have bP : (ghostOf h₁ [(123, 119)]).get? 119 = none := hideAll_none _ (.head _)
  refine ⟨rfl, fun h g => X.keeps g.1, fun h g => (ghost_code hT).1.keeps g.1, fun h g => ?_, fun h g => g.2, fun h h' c g hx e hc hn => ?_⟩
  · have TG := ghost_top hT T
    obtain ⟨bm, ob, b1, b2, b3, b4, b5, b6⟩ := TG.bmain
    refine ⟨bm, ob, b1, b2, fun q => ?_, fun q => ?_, g.1 _ _ b3, b4, b5, b6⟩
    · obtain ⟨o, es, ep, e, d, _⟩ := TG.g
      rw [q, e] at b3; cases b3; rw [d] at b6; cases b6
    · rw [q, bP] at b3; cases b3
  · exact ⟨fun b o q => hx b o (fun z => by rw [z, bP] at q; cases q) (g.1 b o q), _, e, .inr ⟨c, rfl, hc, hn⟩⟩
theorem names_sys (T : Top hd.view_39 (looseW hd.view_39 [Str.ofString "_filemode_table"]) mean mg mb h₁) (X : (hd.heap_39 w.params).In h₁) : Names (ySys w h₁ mg mb) := by
  constructor <;> exact mg_of X T.g (by kernel_rfl!)
theorem tbl_sys (T : Top hd.view_39 (looseW hd.view_39 [Str.ofString "_filemode_table"]) mean mg mb h₁) (X : (hd.heap_39 w.params).In h₁) (XG : (hd.heap_39 w.params).In (ghostOf h₁ [(123, 119)])) : TblOk (ySys w h₁ mg mb) :=
  ⟨.ref 61, mg_of X T.g (by kernel_rfl!), fun h hid g H => (dataIn_ok (XG.keeps g.1) 5 _ _ _ (tbl_at w.params)).2 fun b hb => H.cst b hb⟩
end
end Mine
end
section
set_option tactic.hygienic false
open PySem PySem.W PySem.Calls PyProof.Rows
namespace Mine
theorem ints_rep {g : View} : ∀ {vs : List Value} {ns : List Int}, IntsAre vs ns → RepL g vs (ns.map .int)
  | _, _, .nil => .nil
  | _, _, .cons _ _ r => .cons (.int ..) (ints_rep r)
theorem law_good {w : World} {s₁ : Shared} {mg mb : Str → Option Value} {mean mean' : ExcName → Option Value} {cl : Str → Option Addr} {a : Addr} {vs : List Value} {ns : List Int} (hT : TabsAt [(123, 119)] s₁.heap)
    (T : Top hd.view_39 (looseW hd.view_39 [Str.ofString "_filemode_table"]) mean mg mb s₁.heap) (X : (hd.heap_39 w.params).In s₁.heap) (hg : s₁.gens = #[]) (hl : s₁.heap.IsList a vs.toArray) (hi : IntsAre vs ns) (hn : ns.length ≤ 63) :
    codeAny (model theProg w) callerA (.call (.ref 215) ⟨[.ref a], []⟩) (fun r s' => GoodW PySem.Challenge.rw_op0060_01.row.claim cl mean' [ofPy (PyData.list (ns.map PyData.int))] { s₁ with heap := ghostOf s₁.heap [(123, 119)] } r s' ∧ GrownAll [(123, 119)] s'.heap) s₁ := by
  have XG := ghost_K hT X (by kernel_rfl!)
  have hP := (hT _ (.head _)).2
  have g : (ySys w s₁.heap mg mb).G s₁.heap := ⟨fun b o e => of_hideAll _ e, _, hP, .inl rfl⟩
  have H : HidOk (ySys w s₁.heap mg mb) (fun b => b == 119) s₁.heap := ⟨rfl, fun b hb => ⟨tabObj #[], (eq_of_beq hb) ▸ hP⟩, fun b hb => by
    have := List.all_eq_true.mp (tblAs_P w.params) b hb
    simpa using this⟩
  obtain ⟨o, ho, hc, n, hd⟩ := hl
  have ha : (a == 119) = false := by
    cases q : a == 119 with
    | false => rfl
    | true => rw [eq_of_beq q, hP] at ho; cases ho; cases hc
  refine codeAny_mono (law_code (Y := ySys w s₁.heap mg mb) (P := w.params) (hid := fun b => b == 119) (ns := ns) (sys_ok hT T XG) (stream_sys hT T XG) (tbl_sys T X XG) (names_sys T X) ⟨rfl, by decide, by decide⟩ rfl g H (.cons (.list (vis_of ho ha) hc hd (ints_rep hi)) .nil) hn) fun r s' q => ?_
  obtain ⟨h', tk, rfl, rfl, kp, g'⟩ := q
  obtain ⟨ps, e, _⟩ := g'.2
  refine ⟨⟨.inl ⟨.bool true, .bool true, [], rfl, fun _ => rfl, .bool _, ?_, fun _ => ⟨.nil, fun a ha => by cases ha⟩⟩, g'.1, rfl, hg⟩, ⟨ps, e⟩, trivial⟩
  kernel_rfl!
end Mine
end
section
set_option tactic.hygienic false
open PySem PySem.W PyProof.Rows
namespace Mine
theorem fa_is {w : World} {h₁ : Heap} {mg mb : Str → Option Value} {mean : ExcName → Option Value} (T : Top hd.view_39 (looseW hd.view_39 [Str.ofString "_filemode_table"]) mean mg mb h₁) (X : (hd.heap_39 w.params).In h₁) {fa : Addr} (e : mg (Str.ofString "law") = some (.ref fa)) : fa = 215 := by
  have := (names_sys T X).n215
  rw [show mg (Str.ofString "law") = _ from this] at e
  cases e; rfl
end Mine
set_option maxHeartbeats 8000000 in
theorem PySem.Challenge.cw_op0060_01_holds : PySem.Challenge.rw_op0060_01.Holds := by
  w_on
  refine holds_law Mine.theSaid fun said => ?_
  refine holds_open (q := Mine.hd.view_39) (loose := [Str.ofString "_filemode_table"]) (Xt := fun s => xlAt Mine.hd.view_39 Mine.lvs s && recOk (RowW.records Mine.theRow.toRowW) s) (XP := XL Mine.hd.view_39 Mine.lvs) (Yf := Hook.obs Mine.theHook) (Ya := Hook.val Mine.theHook) (YP := Hook.says Mine.theHook) (N := 2690)
    Mine.theLeft (Hook.of Mine.theHook) (Hook.keeps Mine.theHook) (fun s e => xl_of s (Bool.and_eq_true_iff.mp e).1) XL.keeps (by rfl) (by rfl) (by rfl) (fun s e => recFacts_of (Bool.and_eq_true_iff.mp e).2) (by rfl) said (by decide +kernel) ⟨rfl, rfl, rfl, rfl, rfl, by decide +kernel⟩ ?hw ?hc
  case hw => w_witness2
  k_fill
  intro w s₀ s₁ mg mb G Y fa o pm cd doc dV kV ho hd hcd hD hmg hg args vals as hpre hlay hrd hwl hlo
  have KX := km_in_of Y
  km_tabs Y
  have X := (Ground.X G).1
  have V := (Ground.X G).2
  refine Ground.open G ?_
  intro T B D TE TW
  try (refine guard_noD D (by decide +kernel) ?_; clear D)
  have hT9 : TabsAt [(123, 119)] s₁.heap := List.forall_mem_cons.mpr ⟨⟨codeHd_of_K (c := 123) (P := 119) KX (by kernel_rfl), hT8 119 (by k_mem)⟩, fun _ h => nomatch h⟩
  have hfa := Mine.fa_is T KX hmg
  clear hd hcd hD hmg ho
  subst hfa
  wrow_args hpre hlay hrd hwl hlo
  all_goals (
    first | refine callC_kw (enter_call ?_) | refine enter_call ?_
    w_top on
    kn_posts)
  rename_i hI hr hc1 hc2
  exact Mine.law_good (by assumption) T KX hg (by assumption) hI (by omega)
end
