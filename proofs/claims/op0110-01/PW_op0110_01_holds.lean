import PyProof.Rows.All
import Wide.All
import OpenK.AllK
import Wide.FinOn
import PySem.Challenge.RW_op0110_01
open PySem PySem.W PyProof.Rows PySem.Calls
set_option Elab.async false
set_option linter.unusedVariables false
set_option linter.unusedSimpArgs false
set_option maxRecDepth 100000
set_option maxHeartbeats 8000000
namespace Mine
open_top hd for PySem.Challenge.rw_op0110_01
end Mine

set_option maxRecDepth 100000
set_option maxHeartbeats 1000000
namespace Mine

noncomputable abbrev PP : Program := PySem.Challenge.rw_op0110_01.prog

/-- the world, and objects that stand for good while a def's inner def lives -/
structure Wd where
  w : World
  K : Frag
noncomputable abbrev Wd.params (W : Wd) : Params := W.w.params

theorem hold_tIH (h : True := by intro _ h; exact h) : True := trivial
theorem hold_tIE (h : True := by intro _ e; cases e) : True := trivial
theorem hold_tIIIE (h : True := by intro _ _ _ e; cases e) : True := trivial
theorem len1 {α : Type} {l : List α} (h : l.length = 1) : ∃ a, l = [a] := List.length_eq_one_iff.mp h
theorem len2 {α : Type} {l : List α} (h : l.length = 2) : ∃ a b, l = [a, b] := by
  cases l with
  | nil => cases h
  | cons a l => obtain ⟨b, rfl⟩ := len1 (Nat.succ.inj h); exact ⟨_, _, rfl⟩
theorem len3 {α : Type} {l : List α} (h : l.length = 3) : ∃ a b c, l = [a, b, c] := by
  cases l with
  | nil => cases h
  | cons a l => obtain ⟨b, c, rfl⟩ := len2 (Nat.succ.inj h); exact ⟨_, _, _, rfl⟩
theorem len4 {α : Type} {l : List α} (h : l.length = 4) : ∃ a b c d, l = [a, b, c, d] := by
  cases l with
  | nil => cases h
  | cons a l => obtain ⟨b, c, d, rfl⟩ := len3 (Nat.succ.inj h); exact ⟨_, _, _, _, rfl⟩

inductive D where
  | none
  | bool (b : Bool)
  | int (n : Int)
  | str (s : Str)
  | list (l : List D)
  | tup (l : List D)

mutual
inductive Rep (av : List Addr) (h : Heap) : Value → D → Prop
  | none : Rep av h .none .none
  | bool (b : Bool) : Rep av h (.bool b) (.bool b)
  | int (n : Int) (t : Tok) : Rep av h (.int n t) (.int n)
  | str (x : Str) (t : Tok) : Rep av h (.str x t) (.str x)
  | list {a : Addr} {vs : List Value} {n : Nat} {ds : List D} : a ∉ av → IsL h a vs.toArray n → Reps av h vs ds → Rep av h (.ref a) (.list ds)
  | tup {a : Addr} {vs : List Value} {n : Nat} {ds : List D} : a ∉ av → IsT h a vs.toArray n → Reps av h vs ds → Rep av h (.ref a) (.tup ds)
inductive Reps (av : List Addr) (h : Heap) : List Value → List D → Prop
  | nil : Reps av h [] []
  | cons {v : Value} {d : D} {vs : List Value} {ds : List D} : Rep av h v d → Reps av h vs ds → Reps av h (v :: vs) (d :: ds)
end

noncomputable def SeqKeep (av : List Addr) (h h' : Heap) : Prop := ∀ a o items n, a ∉ av → h.get? a = some o → o.data = .seq items n → h'.get? a = some o

theorem Rep.mono {av : List Addr} {h h' : Heap} (hk : SeqKeep av h h') {v : Value} {d : D} (r : Rep av h v d) : Rep av h' v d :=
  Rep.rec (motive_1 := fun v d _ => Rep av h' v d) (motive_2 := fun vs ds _ => Reps av h' vs ds) .none .bool .int .str (fun ha ho _ ih => .list ha (hk _ _ _ _ ha ho rfl) ih) (fun ha ho _ ih => .tup ha (hk _ _ _ _ ha ho rfl) ih) .nil (fun _ _ a b => .cons a b) r
theorem Reps.mono {av : List Addr} {h h' : Heap} (hk : SeqKeep av h h') {vs : List Value} {ds : List D} (r : Reps av h vs ds) : Reps av h' vs ds :=
  Reps.rec (motive_1 := fun v d _ => Rep av h' v d) (motive_2 := fun vs ds _ => Reps av h' vs ds) .none .bool .int .str (fun ha ho _ ih => .list ha (hk _ _ _ _ ha ho rfl) ih) (fun ha ho _ ih => .tup ha (hk _ _ _ _ ha ho rfl) ih) .nil (fun _ _ a b => .cons a b) r
/-- a property of lists of data, item by item -/
theorem Reps.ind {av : List Addr} {h : Heap} {P : List Value → List D → Prop} (p0 : P [] []) (p1 : ∀ {v d vs ds}, Rep av h v d → Reps av h vs ds → P vs ds → P (v :: vs) (d :: ds)) {vs : List Value} {ds : List D} (r : Reps av h vs ds) : P vs ds :=
  Reps.rec (motive_1 := fun _ _ _ => True) (motive_2 := fun vs ds _ => P vs ds) trivial (fun _ => trivial) (fun _ _ => trivial) (fun _ _ => trivial) (fun _ _ _ _ => trivial) (fun _ _ _ _ => trivial) p0 (fun a b _ ih => p1 a b ih) r

theorem Reps.length {av : List Addr} {h : Heap} {vs : List Value} {ds : List D} (r : Reps av h vs ds) : vs.length = ds.length := Reps.ind (P := fun vs ds => vs.length = ds.length) rfl (fun _ _ ih => congrArg Nat.succ ih) r
theorem Reps.append {av : List Addr} {h : Heap} {vs ws : List Value} {ds es : List D} (r : Reps av h vs ds) (r' : Reps av h ws es) : Reps av h (vs ++ ws) (ds ++ es) := Reps.ind (P := fun vs ds => Reps av h (vs ++ ws) (ds ++ es)) r' (fun a _ ih => .cons a ih) r
theorem Reps.get {av : List Addr} {h : Heap} {vs : List Value} {ds : List D} {i : Nat} {v : Value} (r : Reps av h vs ds) (e : vs[i]? = some v) : ∃ d, ds[i]? = some d ∧ Rep av h v d := by
  refine Reps.ind (P := fun vs ds => ∀ i v, vs[i]? = some v → ∃ d, ds[i]? = some d ∧ Rep av h v d) (fun i v e => by cases e) (fun {v d vs ds} a _ ih i u e => ?_) r i v e
  cases i with
  | zero => cases e; exact ⟨_, rfl, a⟩
  | succ i => exact ih i u e
theorem Reps.get' {av : List Addr} {h : Heap} {vs : List Value} {ds : List D} {i : Nat} {d : D} (r : Reps av h vs ds) (e : ds[i]? = some d) : ∃ v, vs[i]? = some v ∧ Rep av h v d := by
  refine Reps.ind (P := fun vs ds => ∀ i d, ds[i]? = some d → ∃ v, vs[i]? = some v ∧ Rep av h v d) (fun i v e => by cases e) (fun {v d vs ds} a _ ih i u e => ?_) r i d e
  cases i with
  | zero => cases e; exact ⟨_, rfl, a⟩
  | succ i => exact ih i u e

/-! the two tables of code objects -/
noncomputable def TabOk (h : Heap) (P : Addr) (line col : Nat) (qual : Str) : Prop :=
  h.get? P = some (tabObj #[]) ∨ ∃ c', h.get? P = some (tabObj #[rawInt line, rawInt col, .ref c']) ∧ h.CodeRec (.ref c') qual

structure Gd (w : Wd) (h : Heap) : Prop where
  kx : ∀ a o, (a, o) ∈ w.K → a ≠ 30 ∧ a ≠ 37 ∧ h.get? a = some o
  X : (hd.heap_39 w.params).In h
  g : ∃ mg, h.Ns mainGlobals mg
  ns : ∃ mb, h.Ns builtinsNs mb ∧ ∀ x : Str, x ≠ "__name__" → mb x = bootBuiltins x
  lim : h.NoLimit
  bm : ∃ ob, h.get? 4 = some ob ∧ ob.cls = .type "module" ∧ ob.dict = some builtinsNs ∧ ob.data = .plain
  t1 : TabOk h 30 32 4 (Str.ofString "_int2digits.<locals>.inner")
  t2 : TabOk h 37 47 4 (Str.ofString "_digits2int.<locals>.inner")

theorem TabOk.fields {h : Heap} {P : Addr} {l c : Nat} {q : Str} (t : TabOk h P l c q) : ∃ ps, h.get? P = some (tabObj ps) ∧ ∀ x u, ps[1]? ≠ some (.str x u) := by
  rcases t with t | ⟨c', t, _⟩
  · exact ⟨_, t, fun x u e => by cases e⟩
  · exact ⟨_, t, fun x u e => by cases e⟩

theorem TabOk.ne {h : Heap} {P : Addr} {l c : Nat} {q : Str} (t : TabOk h P l c q) {b : Addr} {o : Obj} (e : h.get? b = some o) (hd : ∀ vs, o.data ≠ .fields vs) : b ≠ P := by
  rintro rfl
  obtain ⟨ps, h1, _⟩ := t.fields
  rw [e] at h1; cases h1; exact hd _ rfl

theorem TabOk.neCode {h : Heap} {P : Addr} {l c : Nat} {q : Str} (t : TabOk h P l c q) {b : Addr} {o : Obj} {vs : Array Value} {x : Str} {u : Tok} (e : h.get? b = some o) (hd : o.data = .fields vs) (hv : vs[1]? = some (.str x u)) : b ≠ P := by
  rintro rfl
  obtain ⟨ps, h1, h2⟩ := t.fields
  rw [e] at h1; cases h1; cases hd; exact h2 _ _ hv

/-- what a step keeps: all, or (q = false) all but the two tables -/
structure Ext (w : Wd) (q : Bool) (h h' : Heap) : Prop where
  keep : ∀ b o, (q = true ∨ (b ≠ 30 ∧ b ≠ 37)) → h.get? b = some o → h'.get? b = some o
  gd : Gd w h → Gd w h'

theorem Ns.keepT {h h' : Heap} {a : Addr} {m : Str → Option Value} (n : h.Ns a m) (hk : ∀ o, h.get? a = some o → h'.get? a = some o) : h'.Ns a m :=
  let ⟨o, es, ep, e, r⟩ := n; ⟨o, es, ep, hk o e, r⟩

theorem TabOk.keep {h h' : Heap} {P : Addr} {l c : Nat} {q : Str} (t : TabOk h P l c q) (hk : ∀ b o, h.get? b = some o → h'.get? b = some o) : TabOk h' P l c q := by
  rcases t with t | ⟨c', t, r⟩
  · exact .inl (hk _ _ t)
  · exact .inr ⟨c', hk _ _ t, r.keeps hk⟩

/-- all kept -/
theorem Gd.keep {w : Wd} {h h' : Heap} (g : Gd w h) (hk : ∀ b o, h.get? b = some o → h'.get? b = some o) : Gd w h' where
  kx := fun a o e => ⟨(g.kx a o e).1, (g.kx a o e).2.1, hk _ _ (g.kx a o e).2.2⟩
  X := g.X.keeps hk
  g := let ⟨mg, n⟩ := g.g; ⟨mg, n.keeps hk⟩
  ns := let ⟨mb, n, r⟩ := g.ns; ⟨mb, n.keeps hk, r⟩
  lim := g.lim.keeps hk
  bm := let ⟨ob, e, r⟩ := g.bm; ⟨ob, hk _ _ e, r⟩
  t1 := g.t1.keep hk
  t2 := g.t2.keep hk

/-- an address whose object is no bare record is no table -/
theorem Gd.ne {w : Wd} {h : Heap} (g : Gd w h) {b : Addr} {o : Obj} (e : h.get? b = some o) (hd : ∀ vs, o.data ≠ .fields vs) : b ≠ 30 ∧ b ≠ 37 := ⟨g.t1.ne e hd, g.t2.ne e hd⟩
theorem Gd.neCode {w : Wd} {h : Heap} (g : Gd w h) {b : Addr} {o : Obj} {vs : Array Value} {x : Str} {u : Tok} (e : h.get? b = some o) (hd : o.data = .fields vs) (hv : vs[1]? = some (.str x u)) : b ≠ 30 ∧ b ≠ 37 :=
  ⟨g.t1.neCode e hd hv, g.t2.neCode e hd hv⟩

theorem Gd.ofT {w : Wd} {h h' : Heap} (g : Gd w h) (hk : ∀ b o, b ≠ 30 → b ≠ 37 → h.get? b = some o → h'.get? b = some o)
    (t1 : TabOk h' 30 32 4 (Str.ofString "_int2digits.<locals>.inner")) (t2 : TabOk h' 37 47 4 (Str.ofString "_digits2int.<locals>.inner")) : Gd w h' where
  kx := fun a o e => ⟨(g.kx a o e).1, (g.kx a o e).2.1, hk _ _ (g.kx a o e).1 (g.kx a o e).2.1 (g.kx a o e).2.2⟩
  X := fun a o e => hk a o (by rintro rfl; cases e) (by rintro rfl; cases e) (g.X a o e)
  g := let ⟨mg, n⟩ := g.g; ⟨mg, Ns.keepT n fun o e => hk _ _ (by decide) (by decide) e⟩
  ns := let ⟨mb, n, r⟩ := g.ns; ⟨mb, Ns.keepT n fun o e => hk _ _ (by decide) (by decide) e, r⟩
  lim := let ⟨mc, n, r⟩ := g.lim; ⟨mc, Ns.keepT n fun o e => hk _ _ (by decide) (by decide) e, r⟩
  bm := let ⟨ob, e, r⟩ := g.bm; ⟨ob, hk _ _ (by decide) (by decide) e, r⟩
  t1 := t1
  t2 := t2

theorem Ext.refl {w : Wd} {q : Bool} {h : Heap} : Ext w q h h := ⟨fun _ _ _ e => e, id⟩
theorem Ext.trans {w : Wd} {q : Bool} {h h' h'' : Heap} (x : Ext w q h h') (y : Ext w q h' h'') : Ext w q h h'' := ⟨fun b o hb e => y.keep b o hb (x.keep b o hb e), fun g => y.gd (x.gd g)⟩
theorem Ext.of {w : Wd} {q : Bool} {h h' : Heap} (hk : ∀ b o, h.get? b = some o → h'.get? b = some o) : Ext w q h h' := ⟨fun b o _ e => hk b o e, fun g => g.keep hk⟩
theorem Ext.push {w : Wd} {q : Bool} {h : Heap} (o : Obj) : Ext w q h (h.push o) := .of fun _ _ e => Heap.get?_push_of_some _ e
theorem Ext.weak {w : Wd} {q : Bool} {h h' : Heap} (x : Ext w true h h') : Ext w q h h' := ⟨fun b o _ e => x.keep b o (.inl rfl) e, x.gd⟩
theorem Ext.all {w : Wd} {h h' : Heap} (x : Ext w true h h') : ∀ b o, h.get? b = some o → h'.get? b = some o := fun b o e => x.keep b o (.inl rfl) e
/-- an object that is no bare record is kept -/
theorem Ext.obj {w : Wd} {q : Bool} {h h' : Heap} (x : Ext w q h h') (g : Gd w h) {b : Addr} {o : Obj} (e : h.get? b = some o) (hd : ∀ vs, o.data ≠ .fields vs) : h'.get? b = some o := x.keep b o (.inr (g.ne e hd)) e
theorem Ext.seq {w : Wd} {q : Bool} {av : List Addr} {h h' : Heap} (x : Ext w q h h') (g : Gd w h) : SeqKeep av h h' := fun _ _ _ _ _ e hd => x.obj g e fun vs hq => by rw [hd] at hq; cases hq
theorem Ext.ns {w : Wd} {q : Bool} {h h' : Heap} (x : Ext w q h h') (g : Gd w h) {a : Addr} {m : Str → Option Value} (n : h.Ns a m) : h'.Ns a m := by
  obtain ⟨o, es, ep, e, hd, r⟩ := n
  exact ⟨o, es, ep, x.obj g e (fun vs hq => by rw [hd] at hq; cases hq), hd, r⟩
theorem Ext.cell {w : Wd} {q : Bool} {h h' : Heap} (x : Ext w q h h') (g : Gd w h) {a : Addr} {v : Option Value} (n : h.IsCell a v) : h'.IsCell a v := by
  obtain ⟨o, e, hd⟩ := n
  exact ⟨o, x.obj g e (fun vs hq => by rw [hd] at hq; cases hq), hd⟩

/-- neither names, nor a cell, nor a code object -/
noncomputable def Pl (o : Obj) : Prop := (∀ es n, o.data ≠ .dict es n) ∧ (∀ v, o.data ≠ .cell v) ∧ ∀ vs x u, o.data = .fields vs → vs[1]? ≠ some (.str x u)
theorem Pl.seq {o : Obj} {it : Array Value} {n : Nat} (h : o.data = .seq it n) : Pl o := ⟨fun _ _ e => (by rw [h] at e; cases e), fun _ e => (by rw [h] at e; cases e), fun _ _ _ e => (by rw [h] at e; cases e)⟩
theorem Pl.fields {o : Obj} {vs : Array Value} (h : o.data = .fields vs) (hv : ∀ x u, vs[1]? ≠ some (.str x u)) : Pl o := ⟨fun _ _ e => (by rw [h] at e; cases e), fun _ e => (by rw [h] at e; cases e), fun _ x u e => (by rw [h] at e; cases e; exact hv x u)⟩
/-- the ground, and the addresses that are kept out of all data (lists that are being filled, iterators) -/
structure Gv (w : Wd) (av : List Addr) (h : Heap) : Prop where
  gd : Gd w h
  own : ∀ a ∈ av, 142 ≤ a ∧ ∃ o, h.get? a = some o ∧ Pl o
  kn : ∀ a ∈ av, ∀ o, (a, o) ∉ w.K
theorem Gv.ext {w : Wd} {av : List Addr} {q : Bool} {h h' : Heap} (g : Gv w av h) (x : Ext w q h h') : Gv w av h' := ⟨x.gd g.gd, fun a ha => let ⟨h1, o, e, hd⟩ := g.own a ha; ⟨h1, o, x.keep a o (.inr ⟨Nat.ne_of_gt (Nat.lt_of_lt_of_le (by decide) h1), Nat.ne_of_gt (Nat.lt_of_lt_of_le (by decide) h1)⟩) e, hd⟩, g.kn⟩
theorem Gv.lt {w : Wd} {av : List Addr} {h : Heap} (g : Gv w av h) : ∀ a ∈ av, a < h.objs.size := fun a ha => let ⟨_, _, e, _⟩ := g.own a ha; Heap.lt_size e
theorem Gd.kfree {w : Wd} {h : Heap} (g : Gd w h) {a : Addr} (e : h.get? a = none) : ∀ o, (a, o) ∉ w.K := fun o hm => by rw [(g.kx a o hm).2.2] at e; cases e
theorem Gd.size {w : Wd} {h : Heap} (g : Gd w h) : 142 ≤ h.objs.size :=
  let ⟨o, e⟩ := Option.isSome_iff_exists.mp (show ((hd.heap_39 w.params).lookup 141).isSome = true from rfl)
  Heap.lt_size (g.X 141 o e)
theorem Gv.new {w : Wd} {av : List Addr} {h : Heap} (g : Gv w av h) : h.objs.size ∉ av := fun ha => Nat.lt_irrefl _ (g.lt _ ha)

/-- a step of the machine: heap and tokens alone, by Ext -/
noncomputable def Kp (w : Wd) (q : Bool) (s s' : Shared) : Prop := ∃ h' tk, s' = { s with heap := h', toks := tk } ∧ Ext w q s.heap h'
theorem Kp.refl {w : Wd} {q : Bool} {s : Shared} : Kp w q s s := ⟨s.heap, s.toks, rfl, .refl⟩
theorem Kp.tok {w : Wd} {q : Bool} {s : Shared} (t : Nat) : Kp w q s { s with toks := t } := ⟨s.heap, t, rfl, .refl⟩
theorem Kp.trans {w : Wd} {q : Bool} {s s' s'' : Shared} (x : Kp w q s s') (y : Kp w q s' s'') : Kp w q s s'' := by
  obtain ⟨h, t, rfl, e⟩ := x
  obtain ⟨h', t', rfl, e'⟩ := y
  exact ⟨h', t', rfl, e.trans e'⟩
theorem Kp.ext {w : Wd} {q : Bool} {s s' : Shared} (x : Kp w q s s') : Ext w q s.heap s'.heap := by obtain ⟨h, t, rfl, e⟩ := x; exact e
theorem Kp.weak {w : Wd} {q : Bool} {s s' : Shared} (x : Kp w true s s') : Kp w q s s' := let ⟨h, t, e, y⟩ := x; ⟨h, t, e, y.weak⟩
theorem Kp.of_keeps {w : Wd} {q : Bool} {s s' : Shared} (x : Keeps s s') : Kp w q s s' := let ⟨h, t, e, y⟩ := x; ⟨h, t, e, .of y⟩
theorem Kp.keeps {w : Wd} {s s' : Shared} (x : Kp w true s s') : Keeps s s' := let ⟨h, t, e, y⟩ := x; ⟨h, t, e, y.all⟩
theorem Kp.heap {w : Wd} {q : Bool} {s : Shared} {h' : Heap} {tk : Nat} (x : Ext w q s.heap h') : Kp w q s { s with heap := h', toks := tk } := ⟨h', tk, rfl, x⟩

/-- room left on the stacks -/
structure Room (k : Nat) (A : Around) : Prop where
  hd : A.handled = none
  dp : A.depth + k < recursionLimit
  un : A.units + 8 * k + 100 < cLine

/-- the value of a variable of the frame at hand -/
noncomputable def Var (h : Heap) (env : Env) (x : Str) (v : Value) : Prop :=
  (x == ("__debug__" : Str)) = false ∧
  ((env.kindOf x = some .local ∧ ∃ m, h.Ns env.locals m ∧ m x = some v) ∨
   (env.kindOf x = some .cell ∧ ∃ c, env.cells.lookup x = some c ∧ h.IsCell c (some v)) ∨
   (env.kindOf x = some .free ∧ (x == ("__classdict__" : Str)) = false ∧ ∃ c, env.cells.lookup x = some c ∧ h.IsCell c (some v)))

noncomputable abbrev Sg := Str → Option D
noncomputable def Sg.set (σ : Sg) (x : Str) (d : D) : Sg := fun y => if y = x then some d else σ y

structure Sees (w : Wd) (av : List Addr) (h : Heap) (env : Env) (σ : Sg) : Prop where
  kind : env.scope.kind = .function
  glob : env.globals = mainGlobals
  blt : env.builtins = builtinsNs
  gv : Gv w av h
  var : ∀ x d, σ x = some d → ∃ v, Var h env x v ∧ Rep av h v d

theorem Var.ext {w : Wd} {q : Bool} {h h' : Heap} {env : Env} {x : Str} {v : Value} (n : Var h env x v) (g : Gd w h) (e : Ext w q h h') : Var h' env x v := by
  refine ⟨n.1, ?_⟩
  rcases n.2 with ⟨a, m, b, c⟩ | ⟨a, c, b, d⟩ | ⟨a, a', c, b, d⟩
  · exact .inl ⟨a, m, e.ns g b, c⟩
  · exact .inr (.inl ⟨a, c, b, e.cell g d⟩)
  · exact .inr (.inr ⟨a, a', c, b, e.cell g d⟩)

theorem Sees.gd {w : Wd} {av : List Addr} {h : Heap} {env : Env} {σ : Sg} (n : Sees w av h env σ) : Gd w h := n.gv.gd
theorem Sees.ext {w : Wd} {av : List Addr} {q : Bool} {h h' : Heap} {env : Env} {σ : Sg} (n : Sees w av h env σ) (e : Ext w q h h') : Sees w av h' env σ where
  kind := n.kind
  glob := n.glob
  blt := n.blt
  gv := n.gv.ext e
  var := fun x d hx => let ⟨v, a, b⟩ := n.var x d hx; ⟨v, a.ext n.gd e, b.mono (e.seq n.gd)⟩

theorem Sees.kp {w : Wd} {av : List Addr} {q : Bool} {s s' : Shared} {env : Env} {σ : Sg} (n : Sees w av s.heap env σ) (e : Kp w q s s') : Sees w av s'.heap env σ := n.ext e.ext

/-- the expression's value is d; the heap grows -/
noncomputable def Ev (w : Wd) (av : List Addr) (k : Nat) (q : Bool) (env : Env) (σ : Sg) (e : Expr) (d : D) : Prop :=
  ∀ (A : Around) (s : Shared) (E : Value → Shared → Prop) (Q : Value → Shared → Prop), Room k A → Sees w av s.heap env σ →
    (∀ y s', Rep av s'.heap y d → Kp w q s s' → Q y s') → wpAny (model PP w.w) A (eval e env) Q E s
/-- the same for a row of expressions -/
noncomputable def Evs (w : Wd) (av : List Addr) (k : Nat) (q : Bool) (env : Env) (σ : Sg) (es : List Expr) (ds : List D) : Prop :=
  ∀ (pos : Pos) (A : Around) (s : Shared) (E : Value → Shared → Prop) (Q : List Value → Shared → Prop), Room k A → Sees w av s.heap env σ →
    (∀ ys s', Reps av s'.heap ys ds → Kp w q s s' → Q ys s') → wpAny (model PP w.w) A (spliced (backTo pos (starEach es env))) Q E s
/-- the test's truth -/
noncomputable def Tr (w : Wd) (av : List Addr) (k : Nat) (q : Bool) (env : Env) (σ : Sg) (e : Expr) (b : Bool) : Prop :=
  ∀ (A : Around) (s : Shared) (E : Value → Shared → Prop) (Q : Bool → Shared → Prop), Room k A → Sees w av s.heap env σ →
    (∀ s', Kp w q s s' → Q b s') → wpAny (model PP w.w) A (isTrue e env (eval e env)) Q E s
/-- an operation on two values -/
noncomputable def Bin (w : Wd) (k : Nat) (op : Operator) (d₁ d₂ d : D) : Prop :=
  ∀ (av : List Addr) (A : Around) (s : Shared) (E : Value → Shared → Prop) (Q : Value → Shared → Prop) (a b : Value), Room k A → Gv w av s.heap → Rep av s.heap a d₁ → Rep av s.heap b d₂ →
    (∀ y s', Rep av s'.heap y d → Kp w true s s' → Q y s') → wpAny (model PP w.w) A (binaryOp op a b) Q E s
noncomputable def Cmp (w : Wd) (k : Nat) (op : CmpOp) (d₁ d₂ : D) (b : Bool) : Prop :=
  ∀ (av : List Addr) (A : Around) (s : Shared) (E : Value → Shared → Prop) (Q : Value → Shared → Prop) (x y : Value), Room k A → Gv w av s.heap → Rep av s.heap x d₁ → Rep av s.heap y d₂ →
    (∀ s', Kp w true s s' → Q (.bool b) s') → wpAny (model PP w.w) A (compareOp op x y) Q E s
/-- a call of a value (a def of the text, a built-in) with values -/
noncomputable def Cal (w : Wd) (k : Nat) (q : Bool) (f : Value) (ds : List D) (d : D) : Prop :=
  ∀ (av : List Addr) (A : Around) (s : Shared) (E : Value → Shared → Prop) (Q : Value → Shared → Prop) (vs : List Value), Room k A → Gv w av s.heap → Reps av s.heap vs ds →
    (∀ y s', Rep av s'.heap y d → Kp w q s s' → Q y s') → wpAny (model PP w.w) A (call f vs) Q E s

section
variable {w : Wd} {av : List Addr} {k : Nat} {q : Bool} {env : Env} {σ : Sg}

theorem Ev.weak {e : Expr} {d : D} (x : Ev w av k true env σ e d) : Ev w av k q env σ e d := fun A s E Q r n h => x A s E Q r n fun y s' a b => h y s' a b.weak
theorem Cal.weak {f : Value} {ds : List D} {d : D} (x : Cal w k true f ds d) : Cal w k q f ds d := fun av A s E Q vs r n a h => x av A s E Q vs r n a fun y s' a b => h y s' a b.weak

theorem Ev.int {i : Int} {kk : Nat} {pos : Pos} : Ev w av k q env σ (.Constant (.int i) kk pos) (.int i) := fun _ _ _ _ _ _ h => wpAny_Constant_int (h _ _ (.int _ _) (.tok _))
theorem Ev.str {x : Str} {kk : Nat} {pos : Pos} : Ev w av k q env σ (.Constant (.str x) kk pos) (.str x) := fun _ _ _ _ _ _ h => wpAny_Constant_str (h _ _ (.str _ _) (.tok _))
theorem Ev.bool {b : Bool} {kk : Nat} {pos : Pos} : Ev w av k q env σ (.Constant (.bool b) kk pos) (.bool b) := fun _ _ _ _ _ _ h => wpAny_Constant_bool (h _ _ (.bool _) .refl)

theorem Var.load {M : Model} {A : Around} {E : Value → Shared → Prop} {s : Shared} {x : Str} {v : Value} {Q : Value → Shared → Prop} (n : Var s.heap env x v) (hk : env.scope.kind = .function) (h : Q v s) : wpAny M A (loadName env x) Q E s := by
  rcases n.2 with ⟨a, m, b, c⟩ | ⟨a, c, b, d⟩ | ⟨a, a', c, b, d⟩
  · exact wpAny_loadName_local hk a b c h
  · exact wpAny_loadName_cell hk a b d h
  · exact wpAny_loadName_free hk a b d h a'

theorem Ev.name {x : Str} {pos : Pos} {d : D} (hx : σ x = some d) : Ev w av k q env σ (.Name x pos) d := fun A s E Q r n h => by
  obtain ⟨v, a, b⟩ := n.var x d hx
  exact wpAny_Name (a.load n.kind (h _ _ b .refl)) a.1

theorem Ev.bin {l r : Expr} {op : Operator} {pos : Pos} {a b d : D} (hl : Ev w av k q env σ l a) (hr : Ev w av k q env σ r b) (ho : Bin w k op a b d) : Ev w av k q env σ (.BinOp l op r pos) d := fun A s E Q rm n h =>
  wpAny_BinOp (hl A s E _ rm n fun x s₁ ra k₁ => hr A s₁ E _ rm (n.kp k₁) fun y s₂ rb k₂ =>
    ho av A s₂ E Q x y rm ((n.kp k₁).kp k₂).gv (ra.mono (k₂.ext.seq (n.kp k₁).gd)) rb fun z s₃ rz k₃ => h z s₃ rz ((k₁.trans k₂).trans k₃.weak))

theorem Ev.cmp {l r : Expr} {op : CmpOp} {pos : Pos} {a b : D} {c : Bool} (hl : Ev w av k q env σ l a) (hr : Ev w av k q env σ r b) (ho : Cmp w k op a b c) (hm : autoParam (behindInMarks op r = false) PyProof.Rows.slice_list._auto_1) :
    Ev w av k q env σ (.Compare l [op] [r] pos) (.bool c) := fun A s E Q rm n h =>
  wpAny_Compare1 (hl A s E _ rm n fun x s₁ ra k₁ => hr A s₁ E _ rm (n.kp k₁) fun y s₂ rb k₂ =>
    ho av A s₂ E Q x y rm ((n.kp k₁).kp k₂).gv (ra.mono (k₂.ext.seq (n.kp k₁).gd)) rb fun s₃ k₃ => h _ s₃ (.bool _) ((k₁.trans k₂).trans k₃.weak)) hm

theorem Tr.cmp {l r : Expr} {op : CmpOp} {pos : Pos} {a b : D} {c : Bool} (hl : Ev w av k q env σ l a) (hr : Ev w av k q env σ r b) (ho : Cmp w k op a b c) (hm : autoParam (behindInMarks op r = false) PyProof.Rows.slice_list._auto_1) :
    Tr w av k q env σ (.Compare l [op] [r] pos) c := fun A s E Q rm n h =>
  wpAny_isTrue_Compare1 (hl A s E _ rm n fun x s₁ ra k₁ => hr A s₁ E _ rm (n.kp k₁) fun y s₂ rb k₂ =>
    ho av A s₂ E _ x y rm ((n.kp k₁).kp k₂).gv (ra.mono (k₂.ext.seq (n.kp k₁).gd)) rb fun s₃ k₃ => wpAny_truthy_bool (h s₃ ((k₁.trans k₂).trans k₃.weak))) hm

theorem Ev.ite {t a b : Expr} {pos : Pos} {c : Bool} {d : D} (ht : Tr w av k q env σ t c) (h1 : c = true → Ev w av k q env σ a d) (h2 : c = false → Ev w av k q env σ b d) : Ev w av k q env σ (.IfExp t a b pos) d := fun A s E Q rm n h =>
  wpAny_IfExp (ht A s E _ rm n fun s₁ k₁ => by
    cases c with
    | true => rw [if_pos rfl]; exact h1 rfl A s₁ E Q rm (n.kp k₁) fun y s₂ ry k₂ => h y s₂ ry (k₁.trans k₂)
    | false => rw [if_neg Bool.false_ne_true]; exact h2 rfl A s₁ E Q rm (n.kp k₁) fun y s₂ ry k₂ => h y s₂ ry (k₁.trans k₂))

theorem Evs.nil : Evs w av k q env σ [] [] := fun _ _ _ _ _ _ _ h => wpAny_items_nil (h _ _ .nil .refl)
theorem Evs.cons {e : Expr} {es : List Expr} {d : D} {ds : List D} (he : Ev w av k q env σ e d) (hs : Evs w av k q env σ es ds) (hh : autoParam (starEach (e :: es) env = (false, eval e env) :: starEach es env) PyProof.Rows.call_M_of_MD._auto_3) : Evs w av k q env σ (e :: es) (d :: ds) := fun pos A s E Q rm n h =>
  wpAny_items_cons (he A s E _ rm n fun y s₁ ry k₁ => hs pos A s₁ E _ rm (n.kp k₁) fun ys s₂ rs k₂ => h _ s₂ (.cons (ry.mono (k₂.ext.seq (n.kp k₁).gd)) rs) (k₁.trans k₂)) hh

theorem Ev.tup {es : List Expr} {ds : List D} {kk : Nat} {pos : Pos} (hs : Evs w av k q env σ es ds) (hz : autoParam (ds.length ≤ sizeLine) PySem.wpAny_dictSet_pairs._auto_1) : Ev w av k q env σ (.Tuple es kk pos) (.tup ds) := fun A s E Q rm n h =>
  wpAny_Tuple (hs pos A s E _ rm n fun ys s₁ rs k₁ => ⟨by rw [rs.length]; exact hz,
    h _ _ (.tup (n.kp k₁).gv.new (Heap.get?_push_size _ rfl) (rs.mono ((Ext.push (q := q) _).seq (n.kp k₁).gd))) (k₁.trans ⟨_, _, rfl, .push _⟩)⟩)
theorem Ev.list {es : List Expr} {ds : List D} {pos : Pos} (hs : Evs w av k q env σ es ds) (hz : autoParam (ds.length ≤ sizeLine) PySem.wpAny_dictSet_pairs._auto_1) : Ev w av k q env σ (.List es pos) (.list ds) := fun A s E Q rm n h =>
  wpAny_List (hs pos A s E _ rm n fun ys s₁ rs k₁ => ⟨by rw [rs.length]; exact hz,
    h _ _ (.list (n.kp k₁).gv.new (Heap.get?_push_size _ rfl) (rs.mono ((Ext.push (q := q) _).seq (n.kp k₁).gd))) (k₁.trans ⟨_, _, rfl, .push _⟩)⟩)
end
end Mine

set_option maxRecDepth 100000
set_option maxHeartbeats 1000000
namespace Mine
section
variable {w : Wd} {k : Nat} {a b : Int}

theorem fdiv_pos {a b : Int} (h : 0 < b) : a.fdiv b = a / b := Int.fdiv_eq_ediv_of_nonneg a (Int.le_of_lt h)
theorem fmod_pos {a b : Int} (h : 0 < b) : a.fmod b = a % b := Int.fmod_eq_emod_of_nonneg a (Int.le_of_lt h)

theorem Bin.add : Bin w k .Add (.int a) (.int b) (.int (a + b)) := fun av A s E Q x y rm g ra rb h => by
  cases ra; cases rb; exact add_int (h _ _ (.int _ _) (.tok _))
theorem Bin.sub : Bin w k .Sub (.int a) (.int b) (.int (a - b)) := fun av A s E Q x y rm g ra rb h => by
  cases ra; cases rb; exact sub_int (h _ _ (.int _ _) (.tok _))
theorem Bin.mul (hm : a.natAbs < 2 ^ 64 ∨ b.natAbs < 2 ^ 64) : Bin w k .Mult (.int a) (.int b) (.int (a * b)) := fun av A s E Q x y rm g ra rb h => by
  cases ra; cases rb
  refine PySem.P.mul_int (h _ _ (.int _ _) (.tok _)) ?_
  rcases hm with hm | hm
  · exact IntMulOk.of_left (intBits_le hm)
  · have h' : ¬ (Builtin.Int.intBits b > shortFactorBits) := Nat.not_lt.mpr (intBits_le hm)
    unfold IntMulOk; rw [decide_eq_false h']; simp
theorem Bin.div (hb : 0 < b) (hp : b.natAbs.log2 < 9000) : Bin w k .FloorDiv (.int a) (.int b) (.int (a / b)) := fun av A s E Q x y rm g ra rb h => by
  cases ra; cases rb
  refine floordiv_int (by omega) ?_ (.inl (PyProof.noPylong_of_log2 hp))
  rw [fdiv_pos hb]; exact h _ _ (.int _ _) (.tok _)
theorem Bin.mod (hb : 0 < b) : Bin w k .Mod (.int a) (.int b) (.int (a % b)) := fun av A s E Q x y rm g ra rb h => by
  cases ra; cases rb
  refine mod_int' (by omega) ?_
  rw [fmod_pos hb]; exact h _ _ (.int _ _) (.tok _)
theorem Bin.pow (hn : 0 ≤ b) (hn2 : b ≤ 1000000) (ha : a.natAbs < 2 ^ 64) : Bin w k .Pow (.int a) (.int b) (.int (a ^ b.toNat)) := fun av A s E Q x y rm g ra rb h => by
  cases ra; cases rb; exact pow_int_small hn hn2 ha (h _ _ (.int _ _) (.tok _))
theorem Bin.shl (hn : 0 ≤ b) (hn2 : b ≤ 1000000) (ha : a.natAbs < 2 ^ 10000) : Bin w k .LShift (.int a) (.int b) (.int (a * 2 ^ b.toNat)) := fun av A s E Q x y rm g ra rb h => by
  cases ra; cases rb
  refine lshift_int hn ?_ (h _ _ (.int _ _) (.tok _))
  have := intBits_le ha
  omega
theorem Bin.shr (hn : 0 ≤ b) : Bin w k .RShift (.int a) (.int b) (.int (a / 2 ^ b.toNat)) := fun av A s E Q x y rm g ra rb h => by
  cases ra; cases rb
  refine rshift_int hn ?_
  rw [fdiv_pos (Int.pow_pos (by decide))]; exact h _ _ (.int _ _) (.tok _)
theorem Bin.and : Bin w k .BitAnd (.int a) (.int b) (.int (Builtin.bitAnd a b)) := fun av A s E Q x y rm g ra rb h => by
  cases ra; cases rb; exact and_int (h _ _ (.int _ _) (.tok _))
theorem Bin.xor : Bin w k .BitXor (.int a) (.int b) (.int (Builtin.bitXor a b)) := fun av A s E Q x y rm g ra rb h => by
  cases ra; cases rb; exact xor_int (h _ _ (.int _ _) (.tok _))
theorem Bin.addS {x y : Str} (hz : x.length + y.length ≤ sizeLine) : Bin w k .Add (.str x) (.str y) (.str (x ++ y)) := fun av A s E Q _ _ rm g ra rb h => by
  cases ra; cases rb; exact add_str (fun t tk => h _ _ (.str _ _) (.tok _)) hz
theorem Bin.addL {x y : List D} (hz : x.length + y.length ≤ sizeLine) : Bin w k .Add (.list x) (.list y) (.list (x ++ y)) := fun av A s E Q _ _ rm g ra rb h => by
  cases ra with | list ha la ra =>
  cases rb with | list hb lb rb =>
  refine PySem.P.add_list la lb (h _ _ (.list (vs := _ ++ _) (n := 0) g.new (by rw [← List.append_toArray]; exact Heap.get?_push_size _ rfl) ((ra.append rb).mono ((Ext.push (w := w) (q := true) _).seq g.gd))) ⟨_, _, rfl, .push _⟩) (by simpa [ra.length, rb.length] using hz)
theorem Bin.addT {x y : List D} (h1 : x ≠ []) (h2 : y ≠ []) (hz : x.length + y.length ≤ sizeLine) : Bin w k .Add (.tup x) (.tup y) (.tup (x ++ y)) := fun av A s E Q _ _ rm g ra rb h => by
  cases ra with | tup ha la ra =>
  cases rb with | tup hb lb rb =>
  refine PySem.P.add_tuple la lb ?_ ?_ (h _ _ (.tup (vs := _ ++ _) (n := 0) g.new (by rw [← List.append_toArray]; exact Heap.get?_push_size _ rfl) ((ra.append rb).mono ((Ext.push (w := w) (q := true) _).seq g.gd))) ⟨_, _, rfl, .push _⟩) (by simpa [ra.length, rb.length] using hz)
  · cases ra with
    | nil => exact absurd rfl h1
    | cons => simp
  · cases rb with
    | nil => exact absurd rfl h2
    | cons => simp

theorem Cmp.eqI : Cmp w k .Eq (.int a) (.int b) (a == b) := fun av A s E Q x y rm g ra rb h => by
  cases ra; cases rb; exact eq_int (h _ .refl)
theorem Cmp.neI : Cmp w k .NotEq (.int a) (.int b) (a != b) := fun av A s E Q x y rm g ra rb h => by
  cases ra; cases rb; exact ne_int (h _ .refl)
theorem Cmp.ltI : Cmp w k .Lt (.int a) (.int b) (decide (a < b)) := fun av A s E Q x y rm g ra rb h => by
  cases ra; cases rb; exact lt_int (h _ .refl)
theorem Cmp.leI : Cmp w k .LtE (.int a) (.int b) (decide (a ≤ b)) := fun av A s E Q x y rm g ra rb h => by
  cases ra; cases rb; exact PySem.P.le_int (h _ .refl)

/-! deep comparison -/
mutual
noncomputable def D.py : D → PyData
  | .none => .none
  | .bool b => .bool b
  | .int n => .int n
  | .str x => .str x
  | .list l => .list (D.pys l)
  | .tup l => .tuple (D.pys l)
noncomputable def D.pys : List D → List PyData
  | [] => []
  | d :: ds => D.py d :: D.pys ds
end
theorem Rep.reads {av : List Addr} {h : Heap} {v : Value} {d : D} (r : Rep av h v d) : ∃ as, Reads h v d.py as :=
  Rep.rec (motive_1 := fun v d _ => ∃ as, Reads h v d.py as) (motive_2 := fun vs ds _ => ∃ as, ReadsAll h vs (D.pys ds) as) ⟨_, .none⟩ (fun b => ⟨_, .bool b⟩) (fun n t => ⟨_, .int n t⟩) (fun x t => ⟨_, .str x t⟩)
    (fun _ l _ ih => let ⟨as, x⟩ := ih; ⟨_, by rw [D.py]; exact .list l rfl rfl x⟩) (fun _ l _ ih => let ⟨as, x⟩ := ih; ⟨_, by rw [D.py]; exact .tuple l rfl rfl x⟩) ⟨_, .nil⟩ (fun _ _ a b => let ⟨as, x⟩ := a; let ⟨bs, y⟩ := b; ⟨_, .cons x y⟩) r
theorem Cmp.eqD {d₁ d₂ : D} (h1 : SeqAt.shaped d₁.py = true) (h2 : SeqAt.shaped d₂.py = true) : Cmp w k .Eq d₁ d₂ (PyData.eqv d₁.py d₂.py) := fun av A s E Q x y rm g ra rb h => by
  obtain ⟨as, ra⟩ := ra.reads
  obtain ⟨bs, rb⟩ := rb.reads
  exact SeqAt.compareEq_shaped ra rb h1 h2 (by have := rm.un; omega) (h _ .refl)
theorem Cmp.neD {d₁ d₂ : D} (h1 : SeqAt.shaped d₁.py = true) (h2 : SeqAt.shaped d₂.py = true) : Cmp w k .NotEq d₁ d₂ (!PyData.eqv d₁.py d₂.py) := fun av A s E Q x y rm g ra rb h => by
  obtain ⟨as, ra⟩ := ra.reads
  obtain ⟨bs, rb⟩ := rb.reads
  exact SeqAt.compareNe_shaped ra rb h1 h2 (by have := rm.un; omega) (h _ .refl)

theorem ints_any {av : List Addr} {h : Heap} (x : Int) (t : Tok) (e : Value → Bool) (he : ∀ y u, e (.int y u) = (y == x)) : ∀ {vs : List Value} {xs : List Int}, Reps av h vs (xs.map .int) → vs.any e = decide (x ∈ xs) := fun {vs xs} => by
  induction xs generalizing vs with
  | nil => intro r; cases r; rfl
  | cons x' xs ih =>
    intro r
    cases r with | cons r rs =>
    cases r
    rw [List.any_cons, ih rs, he]
    simp only [List.mem_cons, Bool.decide_or]
    by_cases q : x' = x
    · subst q; simp
    · have : ¬ x = x' := fun e => q e.symm
      simp [q, this]
theorem Cmp.inI {x : Int} {xs : List Int} : Cmp w k .In (.int x) (.list (xs.map .int)) (decide (x ∈ xs)) := fun av A s E Q _ _ rm g ra rb h => by
  cases ra with | int _ t =>
  cases rb with | list hl l r =>
  refine SeqAt.in_listAt (fun v => match v with | .int y _ => y == x | _ => false) ⟨_, l, rfl, _, rfl⟩ ?_ ?_
  · intro y hy
    obtain ⟨i, hi⟩ := List.mem_iff_getElem?.mp (by simpa using hy)
    obtain ⟨d, h1, h2⟩ := r.get hi
    rw [List.getElem?_map] at h1
    cases q : xs[i]? with
    | none => rw [q] at h1; cases h1
    | some z => rw [q] at h1; cases h1; cases h2; exact (MeetsSeq.EqGives.int _ _ _ _).at _ _
  · rw [show (_ : Array Value).any _ = _ from List.any_toArray.trans (ints_any x t _ (fun _ _ => rfl) r)]
    exact h _ .refl
theorem Cmp.inS {x y : Str} : Cmp w k .In (.str y) (.str x) (!(Builtin.Str.occurrences x y 0 x.length 1).isEmpty) := fun av A s E Q _ _ rm g ra rb h => by
  cases ra; cases rb; exact in_str (h _ .refl)

end
end Mine

set_option maxRecDepth 100000
set_option maxHeartbeats 1000000
namespace Mine

theorem Reps.ints {av : List Addr} {h : Heap} : ∀ {vs : List Value} {ns : List Int}, Reps av h vs (ns.map .int) → IntsAre vs ns := fun {vs ns} => by
  induction ns generalizing vs with
  | nil => intro r; cases r; exact .nil
  | cons n ns ih => intro r; cases r with | cons a b => cases a; exact .cons _ _ (ih b)
theorem reps_of_ints {av : List Addr} {h : Heap} : ∀ {vs : List Value} {ns : List Int}, IntsAre vs ns → Reps av h vs (ns.map .int)
  | _, _, .nil => .nil
  | _, _, .cons n t r => .cons (.int n t) (reps_of_ints r)
theorem Reps.strs {av : List Addr} {h : Heap} : ∀ {vs : List Value} {xs : List Str}, Reps av h vs (xs.map .str) → ∃ l : List (Str × Tok), vs = strValues l ∧ l.map (·.1) = xs := fun {vs xs} => by
  induction xs generalizing vs with
  | nil => intro r; cases r; exact ⟨[], rfl, rfl⟩
  | cons x xs ih =>
    intro r
    cases r with | cons a b =>
    cases a
    obtain ⟨l, e1, e2⟩ := ih b
    exact ⟨(_, _) :: l, by rw [e1]; rfl, by rw [List.map_cons, e2]⟩

/-- a def of the text, by its name -/
structure DefAt (w : Wd) (f : Str) (a : Addr) : Prop where
  nm : nsIn (hd.heap_39 w.params) mainGlobals f = some (some (.ref a))
  ob : ∃ o fd, (hd.heap_39 w.params).lookup a = some o ∧ o.data = .func fd
theorem DefAt.of {w : Wd} {f : Str} {a : Addr} {fd : FuncData} (nm : nsIn (hd.heap_39 w.params) mainGlobals f = some (some (.ref a))) (h : ((hd.heap_39 w.params).lookup a).map (·.data) = some (.func fd)) : DefAt w f a :=
  ⟨nm, let ⟨o, e, h⟩ := Option.map_eq_some_iff.mp h; ⟨o, fd, e, h⟩⟩

section
variable {w : Wd} {av : List Addr} {k : Nat} {q : Bool} {env : Env} {σ : Sg} {A : Around} {E : Value → Shared → Prop} {s : Shared}

theorem name_glob {f : Str} {p : Pos} {v : Value} {Q : Value → Shared → Prop} (n : Sees w av s.heap env σ) (hk : env.kindOf f = some .globalImplicit) (hf : nsIn (hd.heap_39 w.params) mainGlobals f = some (some v)) (h : Q v s) (hd' : (f == ("__debug__" : Str)) = false) :
    wpAny (model PP w.w) A (eval (.Name f p) env) Q E s := by
  obtain ⟨mg, g⟩ := n.gd.g
  exact Name_function_global n.kind hk (loadGlobal_global (n.glob ▸ g) (mg_of n.gd.X g hf) h) hd'
theorem name_boot {f : Str} {p : Pos} {v : Value} {Q : Value → Shared → Prop} (n : Sees w av s.heap env σ) (hk : env.kindOf f = some .globalImplicit) (hf : nsIn (hd.heap_39 w.params) mainGlobals f = some none) (hb : bootBuiltins f = some v) (hn : f ≠ "__name__") (h : Q v s) (hd' : (f == ("__debug__" : Str)) = false) :
    wpAny (model PP w.w) A (eval (.Name f p) env) Q E s := by
  obtain ⟨mg, g⟩ := n.gd.g
  obtain ⟨mb, b, e⟩ := n.gd.ns
  exact Name_function_global n.kind hk (loadGlobal_builtin (n.glob ▸ g) (mg_none_of n.gd.X g hf) (n.blt ▸ b) ((e f hn).trans hb) h) hd'

/-- a number of the text's top -/
theorem Ev.globI {f : Str} {p : Pos} {i : Int} {t : Tok} (hk : env.kindOf f = some .globalImplicit) (hf : nsIn (hd.heap_39 w.params) mainGlobals f = some (some (.int i t))) (hd' : autoParam ((f == ("__debug__" : Str)) = false) PyProof.Rows.glB_def._auto_7) : Ev w av k q env σ (.Name f p) (.int i) :=
  fun A s E Q rm n h => name_glob n hk hf (h _ _ (.int _ _) .refl) hd'

theorem Ev.calld {f : Str} {p pos : Pos} {e : Expr} {es : List Expr} {a : Addr} {ds : List D} {d : D} (D' : DefAt w f a) (ha : Evs w av k q env σ (e :: es) ds) (hc : Cal w k q (.ref a) ds d)
    (hk : autoParam (env.kindOf f = some .globalImplicit) PyProof.Rows.call_M_of_MD._auto_3) (hs : autoParam (starEach (e :: es) env = (false, eval e env) :: starEach es env) PyProof.Rows.call_M_of_MD._auto_3) (hd' : autoParam ((f == ("__debug__" : Str)) = false) PyProof.Rows.glB_def._auto_7) :
    Ev w av k q env σ (.Call (.Name f p) (e :: es) [] pos) d := fun A s E Q rm n h => by
  obtain ⟨o, fd, ho, hfd⟩ := D'.ob
  refine Call_Name rfl (name_glob n hk D'.nm ?_ hd')
  have ha' := ha pos
  rw [hs] at ha' ⊢
  refine callWith_function (o := o) (fd := fd) (evalArgs_plain (ha' A s E _ rm n fun ys s₁ rs k₁ => ⟨⟨(n.kp k₁).gd.X _ _ ho, hfd⟩, ?_⟩))
  exact hc av A s₁ E Q ys rm (n.kp k₁).gv rs fun y s₂ ry k₂ => h y s₂ ry (k₁.trans k₂)

theorem Ev.calb {f : Str} {p pos : Pos} {e : Expr} {es : List Expr} {id : String} {ds : List D} {d : D} (hb : bootBuiltins f = some (.builtin id)) (ha : Evs w av k q env σ (e :: es) ds) (hc : Cal w k q (.builtin id) ds d)
    (hf : autoParam (nsIn (hd.heap_39 w.params) mainGlobals f = some none) PyProof.Rows.call_M_of_MD._auto_3) (hn : autoParam (f ≠ "__name__") PyProof.Rows.glB_def._auto_7)
    (hk : autoParam (env.kindOf f = some .globalImplicit) PyProof.Rows.call_M_of_MD._auto_3) (hs : autoParam (starEach (e :: es) env = (false, eval e env) :: starEach es env) PyProof.Rows.call_M_of_MD._auto_3) (hpl : autoParam (∀ pos, (backTo pos (starEach es env)).any (·.1) = false) PyProof.Rows.Assign_ListComp_rowsP._auto_1) (hd' : autoParam ((f == ("__debug__" : Str)) = false) PyProof.Rows.glB_def._auto_7) :
    Ev w av k q env σ (.Call (.Name f p) (e :: es) [] pos) d := fun A s E Q rm n h => by
  refine Call_Name rfl (name_boot n hk hf hb hn ?_ hd')
  have ha' := ha pos
  rw [hs] at ha' ⊢
  refine callWith_builtin (by show (false || (backTo pos (starEach es env)).any (·.1)) = false; rw [hpl]; rfl) (evalArgs_plain (ha' A s E _ rm n fun ys s₁ rs k₁ => ?_))
  exact hc av A s₁ E Q ys rm (n.kp k₁).gv rs fun y s₂ ry k₂ => h y s₂ ry (k₁.trans k₂)

/-- a method of a built-in value -/
noncomputable def Get (d : D) (name : Str) (id : String) : Prop := ∀ (av : List Addr) (M : Model) (A : Around) (E : Value → Shared → Prop) (s : Shared) (v : Value) (pl : Sem Bool) (Q : Value × List Value → Shared → Prop), Rep av s.heap v d → Q (.builtin id, [v]) s → wpAny M A (getMethod v name pl) Q E s
theorem Get.count {xs : List D} : Get (.list xs) "count" "list.count" := fun av M A E s v pl Q r h => by
  cases r with | list _ l _ =>
  exact getMethod_builtin (T := "list") ⟨_, l, rfl⟩ PySem.F.plainAttrs_list PySem.F.slot_list_count PySem.F.type_list_count (fun a e => by cases e; exact ⟨_, l, rfl⟩) h
theorem Get.append {xs : List D} : Get (.list xs) "append" "list.append" := fun av M A E s v pl Q r h => by
  cases r with | list _ l _ =>
  exact getMethod_builtin (T := "list") ⟨_, l, rfl⟩ PySem.F.plainAttrs_list PySem.F.slot_list_append PySem.F.type_list_append (fun a e => by cases e; exact ⟨_, l, rfl⟩) h
theorem Get.bits {n : Int} : Get (.int n) "bit_length" "int.bit_length" := fun av M A E s v pl Q r h => by
  cases r; exact getMethod_int_bit_length h
theorem Get.join {x : Str} : Get (.str x) "join" "str.join" := fun av M A E s v pl Q r h => by
  cases r
  exact getMethod_builtin (T := "str") (typeIs_str _ _ _) PySem.F.plainAttrs_str PySem.F.slot_str_join PySem.F.type_str_join (fun a e => by cases e) h

theorem Ev.meth0 {o : Expr} {name : Str} {apos pos : Pos} {pl : Sem Bool} {a d : D} {id : String} (ho : Ev w av k q env σ o a) (hg : Get a name id) (hc : Cal w k q (.builtin id) [a] d)
    (he : autoParam (eval (.Call (.Attribute o name apos) [] [] pos) env = (do
      let ov ← eval o env
      standAt apos.atName
      let (f, first) ← holding [ov] (getMethod ov name pl)
      callWith pos f first (backTo pos (starEach [] env)) [])) PyProof.Rows.call_M_of_MD._auto_3) : Ev w av k q env σ (.Call (.Attribute o name apos) [] [] pos) d := fun A s E Q rm n h =>
  MethodCall_ (pl := pl) (ho A s E _ rm n fun v s₁ rv k₁ => hg av _ A E s₁ v pl _ rv (callWith_method0 (hc av A s₁ E Q [v] rm (n.kp k₁).gv (.cons rv .nil) fun y s₂ ry k₂ => h y s₂ ry (k₁.trans k₂)))) he
theorem Ev.meth1 {o e : Expr} {name : Str} {apos pos : Pos} {pl : Sem Bool} {a b d : D} {id : String} (ho : Ev w av k q env σ o a) (hb : Ev w av k q env σ e b) (hg : Get a name id) (hc : Cal w k q (.builtin id) [a, b] d)
    (hs : autoParam (starEach [e] env = [(false, eval e env)]) PyProof.Rows.call_M_of_MD._auto_3)
    (he : autoParam (eval (.Call (.Attribute o name apos) [e] [] pos) env = (do
      let ov ← eval o env
      standAt apos.atName
      let (f, first) ← holding [ov] (getMethod ov name pl)
      callWith pos f first (backTo pos (starEach [e] env)) [])) PyProof.Rows.call_M_of_MD._auto_3) : Ev w av k q env σ (.Call (.Attribute o name apos) [e] [] pos) d := fun A s E Q rm n h =>
  MethodCall_ (pl := pl) (ho A s E _ rm n fun v s₁ rv k₁ => hg av _ A E s₁ v pl _ rv (callWith_method1 ((Evs.cons hb .nil hs) pos A s₁ E _ rm (n.kp k₁) fun ys s₂ rs k₂ => by
    cases rs with | cons ry rs =>
    cases rs
    exact hc av A s₂ E Q [v, _] rm ((n.kp k₁).kp k₂).gv (.cons (rv.mono (k₂.ext.seq (n.kp k₁).gd)) (.cons ry .nil)) fun z s₃ rz k₃ => h z s₃ rz ((k₁.trans k₂).trans k₃)) hs rfl)) he

/-! items -/
noncomputable def Itm (w : Wd) (k : Nat) (d₁ d₂ d : D) : Prop :=
  ∀ (av : List Addr) (A : Around) (s : Shared) (E : Value → Shared → Prop) (Q : Value → Shared → Prop) (o i : Value), Room k A → Gv w av s.heap → Rep av s.heap o d₁ → Rep av s.heap i d₂ →
    (∀ y s', Rep av s'.heap y d → Kp w true s s' → Q y s') → ∃ T id, s.TypeIs o T ∧ typeLookup (.type T) "__getitem__" = pure (some (.builtin id)) ∧ wpAny (model PP w.w) A (getItem o i) Q E s
theorem Itm.list {xs : List D} {i : Int} {d : D} (h0 : 0 ≤ i) (hx : xs[i.toNat]? = some d) (hf : i < 2 ^ 63) : Itm w k (.list xs) (.int i) d := fun av A s E Q o j rm g ro ri h => by
  cases ri
  cases ro with | list _ l r =>
  obtain ⟨v, e, rv⟩ := r.get' hx
  exact ⟨"list", _, ⟨_, l, rfl⟩, slot_list_getitem.lookup, wpAny_getItem_list ⟨_, l, rfl, _, rfl⟩ h0 hf (by simpa using e) (h _ _ rv .refl)⟩
theorem Itm.tup {xs : List D} {i : Int} {d : D} (h0 : 0 ≤ i) (hx : xs[i.toNat]? = some d) (hf : i < 2 ^ 63) : Itm w k (.tup xs) (.int i) d := fun av A s E Q o j rm g ro ri h => by
  cases ri
  cases ro with | tup _ l r =>
  obtain ⟨v, e, rv⟩ := r.get' hx
  have hl : i.toNat < _ := (List.getElem?_eq_some_iff.mp e).1
  exact ⟨"tuple", _, ⟨_, l, rfl⟩, slot_tuple_getitem.lookup, PySem.P.getItem_tuple (k := i.toNat) l (by omega) hf (seqIndex_at h0 (by simp only [List.size_toArray]; omega)) (by simpa using e) (h _ _ rv .refl)⟩
theorem Itm.str {x : Str} {i : Int} {c : Nat} (h0 : 0 ≤ i) (hx : x.cps[i.toNat]? = some c) (hf : i < 2 ^ 63) : Itm w k (.str x) (.int i) (.str ⟨#[c]⟩) := fun av A s E Q o j rm g ro ri h => by
  cases ri
  cases ro
  have hl : i.toNat < x.cps.size := (Array.getElem?_eq_some_iff.mp hx).1
  refine ⟨"str", _, typeIs_str _ _ _, PySem.F.slot_str_getitem.lookup, PySem.P.getItem_str (c := c) (by simp; omega) ?_ (h _ _ (.str _ _) (.tok _))⟩
  rw [seqIndex_at h0 (show i < (x.length : Int) by show i < (x.cps.size : Int); omega)]; exact hx

theorem Ev.sub {v sl : Expr} {pos : Pos} {a i d : D} (hv : Ev w av k q env σ v a) (hi : Ev w av k q env σ sl i) (ht : Itm w k a i d) (hs : autoParam (∀ o i', subscripted sl false o i' = operate [o, i'] (getItem o i')) PySem.Subscript_Name._auto_1) :
    Ev w av k q env σ (.Subscript v sl pos) d := fun A s E Q rm n h =>
  Subscript_ (hv A s E _ rm n fun o s₁ ro k₁ => hi A s₁ E _ rm (n.kp k₁) fun j s₂ rj k₂ => by
    obtain ⟨T, id, h1, h2, h3⟩ := ht av A s₂ E Q o j rm ((n.kp k₁).kp k₂).gv (ro.mono (k₂.ext.seq (n.kp k₁).gd)) rj fun y s₃ ry k₃ => h y s₃ ry ((k₁.trans k₂).trans k₃.weak)
    exact tail_any h1 h2 h3 (hs o j))

/-! slices -/
theorem Reps.take {av : List Addr} {h : Heap} : ∀ {vs : List Value} {ds : List D} (n : Nat), Reps av h vs ds → Reps av h (vs.take n) (ds.take n)
  | _, _, 0, _ => .nil
  | _, _, _ + 1, .nil => .nil
  | _, _, n + 1, .cons a b => .cons a (b.take n)
theorem Reps.drop {av : List Addr} {h : Heap} : ∀ {vs : List Value} {ds : List D} (n : Nat), Reps av h vs ds → Reps av h (vs.drop n) (ds.drop n)
  | _, _, 0, r => r
  | _, _, _ + 1, .nil => .nil
  | _, _, n + 1, .cons _ b => b.drop n

/-- a part of a slice -/
noncomputable def Prt (w : Wd) (av : List Addr) (k : Nat) (q : Bool) (env : Env) (σ : Sg) (e : Option Expr) (i : Option Int) : Prop :=
  match e, i with
  | none, none => True
  | some e, some i => Ev w av k q env σ e (.int i)
  | _, _ => False
theorem Prt.run {e : Option Expr} {i : Option Int} {A : Around} {s : Shared} {Q : Value → Shared → Prop} (p : Prt w av k q env σ e i) (rm : Room k A) (n : Sees w av s.heap env σ) (h : ∀ v s', IsPart v i → (∃ p : Option (Int × Tok), v = partValue p ∧ p.map (·.1) = i) → Kp w q s s' → Q v s') :
    wpAny (model PP w.w) A (evalPart e env) Q E s := by
  cases e with
  | none => cases i with
    | none => rw [evalPart_none]; exact wpAny_pure (h _ _ .none ⟨none, rfl, rfl⟩ .refl)
    | some => exact p.elim
  | some e => cases i with
    | none => exact p.elim
    | some i => rw [evalPart_some]; exact p A s E Q rm n fun y s' ry k₁ => by cases ry with | int _ t => exact h _ _ (.int _ _) ⟨some (i, t), rfl, rfl⟩ k₁

noncomputable def cutL (xs : List D) (lo hi : Option Int) : List D := (xs.drop (lo.elim 0 (clipAt xs.length))).take (hi.elim xs.length (clipAt xs.length) - lo.elim 0 (clipAt xs.length))

theorem Ev.sliceL {v : Expr} {a b : Option Expr} {p pos : Pos} {xs : List D} {lo hi : Option Int} (hv : Ev w av k q env σ v (.list xs)) (ha : Prt w av k q env σ a lo) (hb : Prt w av k q env σ b hi) (hz : xs.length ≤ sizeLine)
    (ht : autoParam (∀ o r, letTemporaryGo v o r = pure ()) PySem.Subscript_Name._auto_1) : Ev w av k q env σ (.Subscript v (.Slice a b none p) pos) (.list (cutL xs lo hi)) := fun A s E Q rm n h =>
  wpAny_Subscript_list_slice (hv A s E _ rm n fun o s₁ ro k₁ => ha.run rm (n.kp k₁) fun vl s₂ pl _ k₂ => hb.run rm ((n.kp k₁).kp k₂) fun vu s₃ pu _ k₃ => by
    have n₃ := ((n.kp k₁).kp k₂).kp k₃
    have ro' := ro.mono ((k₂.trans k₃).ext.seq (n.kp k₁).gd)
    cases ro' with | @list _ vs m _ _ l r =>
    refine ⟨_, _, lo, hi, rfl, ⟨_, l, rfl, _, rfl⟩, by simpa [r.length] using hz, pl, pu, h _ _ ?_ (((k₁.trans k₂).trans k₃).trans ⟨_, _, rfl, (Ext.push _).trans (.push _)⟩)⟩
    rw [slicePick_plain]
    have e1 : (s₃.heap.push { cls := .type "slice", data := .fields #[vl, vu, .none] }).objs.size = s₃.heap.objs.size + 1 := Heap.size_push ..
    simp only [List.size_toArray, r.length]
    refine .list (vs := (vs.drop (lo.elim 0 (clipAt xs.length))).take (hi.elim xs.length (clipAt xs.length) - lo.elim 0 (clipAt xs.length))) (n := 0) ?_ ?_ ?_
    · rw [← e1]; exact (n₃.gv.ext (Ext.push (q := q) _)).new
    · rw [← e1]; exact Heap.get?_push_size _ rfl
    · exact ((r.drop _).take _).mono (((Ext.push (w := w) (q := q) _).trans (.push _)).seq n₃.gd)) ht

/-! built-ins -/
theorem Cal.bits {a : Int} : Cal w k q (.builtin "int.bit_length") [.int a] (.int (Builtin.Int.intBits a)) := fun av A s E Q vs rm g rs h => by
  cases rs with | cons r rs =>
  cases rs; cases r
  exact call_int_bit_length (h _ _ (.int _ _) (.tok _))
theorem Cal.count {x : Int} {ns : List Int} : Cal w k q (.builtin "list.count") [.list (ns.map .int), .int x] (.int (ns.count x : Nat)) := fun av A s E Q vs rm g rs h => by
  cases rs with | cons r rs =>
  cases rs with | cons r' rs =>
  cases rs; cases r'
  cases r with | list _ l r =>
  exact count_list_ints ⟨_, l, rfl, _, rfl⟩ r.ints (h _ _ (.int _ _) (.tok _))
theorem Cal.len {xs : List D} (hf : xs.length < 2 ^ 62) : Cal w k q (.builtin "len") [.list xs] (.int (xs.length : Nat)) := fun av A s E Q vs rm g rs h => by
  cases rs with | cons r rs =>
  cases rs
  cases r with | list _ l r =>
  refine call_len_list ⟨_, l, rfl, _, rfl⟩ (by simp only [List.size_toArray, r.length]; omega) ?_
  simp only [List.size_toArray, r.length]
  exact h _ _ (.int _ _) (.tok _)
theorem Cal.divmod {a b : Int} (hb : 0 < b) (hp : b.natAbs.log2 < 9000) : Cal w k q (.builtin "divmod") [.int a, .int b] (.tup [.int (a / b), .int (a % b)]) := fun av A s E Q vs rm g rs h => by
  cases rs with | cons r rs =>
  cases rs with | cons r' rs =>
  cases rs; cases r'; cases r
  refine divmod_int (by omega) ?_ (.inl (PyProof.noPylong_of_log2 hp))
  rw [fdiv_pos hb, fmod_pos hb]
  exact h _ _ (.tup (vs := [_, _]) (n := 0) g.new (Heap.get?_push_size _ rfl) (.cons (.int _ _) (.cons (.int _ _) .nil))) ⟨_, _, rfl, .push _⟩
theorem Cal.sum {ns : List Int} : Cal w k q (.builtin "sum") [.list (ns.map .int)] (.int ns.sum) := fun av A s E Q vs rm g rs h => by
  cases rs with | cons r rs =>
  cases rs
  cases r with | @list a ws m _ _ l r =>
  obtain ⟨xs, e⟩ := r.ints.allInts.items
  have hl : s.heap.IsList a (intItems xs) := by rw [← e]; exact ⟨_, l, rfl, _, rfl⟩
  refine sum_intListG rm.hd hl fun h' tk t' hk => ?_
  have e2 : preSum (numAt xs) xs.size = ns.sum := by
    have := nums_intItems (xs := xs)
    rw [← e] at this
    rw [show (_ : List Value).toArray.toList = _ from rfl, r.ints.numsOf] at this
    rw [preSum_eq, List.take_of_length_le (by simp), this]
  rw [e2]
  exact h _ _ (.int _ _) ⟨_, _, rfl, .of hk⟩
theorem Cal.join {sep : Str} {xs : List Str} (hok : JoinOk sep xs = true) : Cal w k q (.builtin "str.join") [.str sep, .list (xs.map .str)] (.str (Txt.join sep xs)) := fun av A s E Q vs rm g rs h => by
  cases rs with | cons r rs =>
  cases rs with | cons r' rs =>
  cases rs; cases r
  cases r' with | list _ l r =>
  obtain ⟨ls, e1, e2⟩ := r.strs
  subst e1
  exact SC.join ⟨_, l, rfl, _, rfl⟩ e2 hok fun t k => h _ _ (.str _ _) (.tok _)
end
end Mine

set_option maxRecDepth 100000
set_option maxHeartbeats 1000000
namespace Mine

theorem Rep.less {av av' : List Addr} {h : Heap} (hs : ∀ a ∈ av, a ∈ av') {v : Value} {d : D} (r : Rep av' h v d) : Rep av h v d :=
  Rep.rec (motive_1 := fun v d _ => Rep av h v d) (motive_2 := fun vs ds _ => Reps av h vs ds) .none .bool .int .str (fun ha ho _ ih => .list (fun q => ha (hs _ q)) ho ih) (fun ha ho _ ih => .tup (fun q => ha (hs _ q)) ho ih) .nil (fun _ _ a b => .cons a b) r
theorem Reps.less {av av' : List Addr} {h : Heap} (hs : ∀ a ∈ av, a ∈ av') {vs : List Value} {ds : List D} (r : Reps av' h vs ds) : Reps av h vs ds :=
  Reps.ind (P := fun vs ds => Reps av h vs ds) .nil (fun a _ ih => .cons (a.less hs) ih) r
/-- an address that bears nothing may be kept out -/
theorem Rep.more {av : List Addr} {h : Heap} {a : Addr} (hn : h.get? a = Option.none) {v : Value} {d : D} (r : Rep av h v d) : Rep (a :: av) h v d :=
  Rep.rec (motive_1 := fun v d _ => Rep (a :: av) h v d) (motive_2 := fun vs ds _ => Reps (a :: av) h vs ds) .none .bool .int .str (fun ha ho _ ih => .list (fun q => (List.mem_cons.mp q).elim (fun e => by rw [← e, ho] at hn; cases hn) ha) ho ih) (fun ha ho _ ih => .tup (fun q => (List.mem_cons.mp q).elim (fun e => by rw [← e, ho] at hn; cases hn) ha) ho ih) .nil (fun _ _ a b => .cons a b) r
theorem Reps.more {av : List Addr} {h : Heap} {a : Addr} (hn : h.get? a = none) {vs : List Value} {ds : List D} (r : Reps av h vs ds) : Reps (a :: av) h vs ds :=
  Reps.ind (P := fun vs ds => Reps (a :: av) h vs ds) .nil (fun r _ ih => .cons (r.more hn) ih) r

theorem Ns.uniq {h : Heap} {a : Addr} {m m' : Str → Option Value} (n : h.Ns a m) (n' : h.Ns a m') : m = m' := by
  obtain ⟨o, es, ep, e, hd, _, f⟩ := n
  obtain ⟨o', es', ep', e', hd', _, f'⟩ := n'
  rw [e] at e'; cases e'
  rw [hd] at hd'; cases hd'
  funext x; rw [← f, ← f']

noncomputable abbrev Om := Option (Str × Addr × List D)
noncomputable def Own (av : List Addr) (h₀ : Heap) (env : Env) (h : Heap) : Om → Prop
  | none => True
  | some (x, a, ds) => a ∈ av ∧ h₀.objs.size ≤ a ∧ Var h env x (.ref a) ∧ ∃ vs n, IsL h a vs.toArray n ∧ Reps av h vs ds

/-- the frame's own state over the base h₀ -/
structure Fs (w : Wd) (av : List Addr) (q : Bool) (h₀ : Heap) (env : Env) (σ : Sg) (ω : Om) (h : Heap) : Prop where
  sees : Sees w av h env σ
  g0 : Gd w h₀
  ext : Ext w q h₀ h
  ns : ∃ m, h.Ns env.locals m
  fresh : h₀.objs.size ≤ env.locals
  cel : ∀ n c, env.kindOf n = some .cell → env.cells.lookup n = some c → h₀.objs.size ≤ c → ∃ v, h.IsCell c v
  apart : ∀ n n' c, env.kindOf n' = some .cell → h₀.objs.size ≤ c → (env.kindOf n = some .cell ∨ env.kindOf n = some .free) → env.cells.lookup n = some c → env.cells.lookup n' = some c → n = n'
  own : Own av h₀ env h ω

/-- all plain objects stand but those of av and the two tables -/
noncomputable def Kf (av : List Addr) (h h' : Heap) : Prop := ∀ b o, h.get? b = some o → Pl o → b ≠ 30 → b ≠ 37 → b ∉ av → h'.get? b = some o
noncomputable def Same (s s' : Shared) : Prop := ∃ h' tk, s' = { s with heap := h', toks := tk }
theorem Same.refl {s : Shared} : Same s s := ⟨_, _, rfl⟩
theorem Same.trans {s s' s'' : Shared} (x : Same s s') (y : Same s' s'') : Same s s'' := by obtain ⟨_, _, rfl⟩ := x; obtain ⟨_, _, rfl⟩ := y; exact ⟨_, _, rfl⟩
theorem Kp.same {w : Wd} {q : Bool} {s s' : Shared} (x : Kp w q s s') : Same s s' := let ⟨h, t, e, _⟩ := x; ⟨h, t, e⟩

theorem Kf.trans {av : List Addr} {h h' h'' : Heap} (x : Kf av h h') (y : Kf av h' h'') : Kf av h h'' := fun b o e p h1 h2 h3 => y b o (x b o e p h1 h2 h3) p h1 h2 h3
theorem Ext.kf {w : Wd} {q : Bool} {av : List Addr} {h h' : Heap} (x : Ext w q h h') : Kf av h h' := fun b o e _ h1 h2 _ => x.keep b o (.inr ⟨h1, h2⟩) e
/-- a run of statements: heap and tokens alone -/
noncomputable def Mv (av : List Addr) (s s' : Shared) : Prop := Same s s' ∧ Kf av s.heap s'.heap
theorem Mv.refl {av : List Addr} {s : Shared} : Mv av s s := ⟨.refl, fun _ _ e _ _ _ _ => e⟩
theorem Mv.trans {av : List Addr} {s s' s'' : Shared} (x : Mv av s s') (y : Mv av s' s'') : Mv av s s'' := ⟨x.1.trans y.1, x.2.trans y.2⟩
theorem Kp.mv {w : Wd} {q : Bool} {av : List Addr} {s s' : Shared} (x : Kp w q s s') : Mv av s s' := ⟨x.same, x.ext.kf⟩
theorem Mv.weak {av : List Addr} {s s' : Shared} (x : Mv [] s s') : Mv av s s' := ⟨x.1, fun b o e p h1 h2 _ => x.2 b o e p h1 h2 (by intro h; cases h)⟩
theorem Mv.of {av : List Addr} {s s' : Shared} (x : Same s s') (h : ∀ b o, s.heap.get? b = some o → Pl o → s'.heap.get? b = some o) : Mv av s s' := ⟨x, fun b o e p _ _ _ => h b o e p⟩

theorem Own.ext {w : Wd} {q : Bool} {av : List Addr} {h₀ h h' : Heap} {env : Env} {ω : Om} (o : Own av h₀ env h ω) (g : Gd w h) (x : Ext w q h h') : Own av h₀ env h' ω := by
  cases ω with
  | none => trivial
  | some p =>
    obtain ⟨y, a, ds⟩ := p
    obtain ⟨h1, h2, h3, vs, n, h4, h5⟩ := o
    exact ⟨h1, h2, h3.ext g x, vs, n, x.obj g h4 (fun _ e => by cases e), h5.mono (x.seq g)⟩

theorem Fs.extend {w : Wd} {av : List Addr} {q : Bool} {h₀ h h' : Heap} {env : Env} {σ : Sg} {ω : Om} (F : Fs w av q h₀ env σ ω h) (x : Ext w q h h') : Fs w av q h₀ env σ ω h' where
  sees := F.sees.ext x
  g0 := F.g0
  ext := F.ext.trans x
  ns := let ⟨m, n⟩ := F.ns; ⟨m, x.ns F.sees.gd n⟩
  fresh := F.fresh
  cel := fun n c a b h1 => let ⟨v, h2⟩ := F.cel n c a b h1; ⟨v, x.cell F.sees.gd h2⟩
  apart := F.apart
  own := F.own.ext F.sees.gd x

/-- a change of one object of the frame's own (its names, or a cell): what else stands -/
theorem Gd.but {w : Wd} {h₀ h h' : Heap} {L : Addr} (g : Gd w h) (g0 : Gd w h₀) (hL : h₀.objs.size ≤ L) (hs : Heap.SameBut L h h') (hd : ∀ o vs, h.get? L = some o → o.data ≠ .fields vs) : Gd w h' := by
  have old : ∀ b o, h₀.get? b = some o → b ≠ L := fun b o e q => Nat.lt_irrefl _ (Nat.lt_of_lt_of_le (Heap.lt_size e) (q ▸ hL))
  have ns : ∀ {a : Addr} {m m' : Str → Option Value}, h₀.Ns a m' → h.Ns a m → h'.Ns a m := fun {a m m'} n' n => by
    obtain ⟨o, _, _, e, _⟩ := n'
    exact n.sameBut hs (old _ _ e)
  have tab : ∀ {P l c : Nat} {qq : Str}, P < h₀.objs.size → TabOk h P l c qq → TabOk h' P l c qq := fun {P l c qq} hP t => by
    have hne : P ≠ L := by omega
    rcases t with t | ⟨c', t, ⟨c2, o, vs, u, e, e1, e2, e3⟩⟩
    · exact .inl ((hs.2 _ hne).trans t)
    · refine .inr ⟨c', (hs.2 _ hne).trans t, c2, o, vs, u, e, (hs.2 _ fun q => ?_).trans e1, e2, e3⟩
      subst q; exact hd o vs e1 e2
  have lt : ∀ {P l c : Nat} {qq : Str}, TabOk h₀ P l c qq → P < h₀.objs.size := fun {P l c qq} t => by obtain ⟨ps, e, _⟩ := t.fields; exact Heap.lt_size e
  refine ⟨fun a o e => ⟨(g.kx a o e).1, (g.kx a o e).2.1, (hs.2 _ (old _ _ (g0.kx a o e).2.2)).trans (g.kx a o e).2.2⟩, fun a o e => (hs.2 _ (old _ _ (g0.X a o e))).trans (g.X a o e), ?_, ?_, ?_, ?_, tab (lt g0.t1) g.t1, tab (lt g0.t2) g.t2⟩
  · obtain ⟨m, n⟩ := g.g; obtain ⟨m', n'⟩ := g0.g; exact ⟨m, ns n' n⟩
  · obtain ⟨m, n, r⟩ := g.ns; obtain ⟨m', n', _⟩ := g0.ns; exact ⟨m, ns n' n, r⟩
  · obtain ⟨m, n, r⟩ := g.lim; obtain ⟨m', n', _⟩ := g0.lim; exact ⟨m, ns n' n, r⟩
  · obtain ⟨ob, e, r⟩ := g.bm; obtain ⟨ob', e', _⟩ := g0.bm; exact ⟨ob, (hs.2 _ (old _ _ e')).trans e, r⟩

theorem Ext.but {w : Wd} {q : Bool} {h₀ h h' : Heap} {L : Addr} (x : Ext w q h₀ h) (g0 : Gd w h₀) (hL : h₀.objs.size ≤ L) (hs : Heap.SameBut L h h') (hd : ∀ o vs, h.get? L = some o → o.data ≠ .fields vs) : Ext w q h₀ h' :=
  ⟨fun b o hb e => (hs.2 b fun q' => Nat.lt_irrefl b (Nat.lt_of_lt_of_le (Heap.lt_size e) (q' ▸ hL))).trans (x.keep b o hb e), fun _ => (x.gd g0).but g0 hL hs hd⟩

section
variable {w : Wd} {av : List Addr} {k : Nat} {q : Bool} {h₀ : Heap} {env : Env} {σ : Sg} {ω : Om} {M : Model} {A : Around} {E : Value → Shared → Prop} {s : Shared}

/-- a name of the frame is stored -/
theorem Fs.putW {x : Str} {v : Value} {σ' : Sg} {ω' : Om} {Q : Unit → Shared → Prop} (F : Fs w av q h₀ env σ ω s.heap) (hx : env.kindOf x = some .local ∨ (env.kindOf x = some .cell ∧ ∃ c, env.cells.lookup x = some c ∧ h₀.objs.size ≤ c)) (hdb : (x == ("__debug__" : Str)) = false)
    (hσ : ∀ y d, σ' y = some d → (y = x ∧ Rep av s.heap v d) ∨ (y ≠ x ∧ σ y = some d))
    (hω : ∀ h', (∀ y u, y ≠ x → Var s.heap env y u → Var h' env y u) → Var h' env x v → (∀ b o, s.heap.get? b = some o → Pl o → h'.get? b = some o) → Own av h₀ env h' ω')
    (h : ∀ s', Same s s' → (∀ b o, s.heap.get? b = some o → Pl o → s'.heap.get? b = some o) → Var s'.heap env x v → Fs w av q h₀ env σ' ω' s'.heap → (env.kindOf x = some .local → Heap.SameBut env.locals s.heap s'.heap) → Q () s') : wpAny M A (storeName env x v) Q E s := by
  have main : ∀ (h' : Heap) (L : Addr), h₀.objs.size ≤ L → Heap.SameBut L s.heap h' → (∀ o, s.heap.get? L = some o → (∀ vs, o.data ≠ .fields vs) ∧ (∀ it n, o.data ≠ .seq it n) ∧ ((∃ es n, o.data = .dict es n) ∨ ∃ v, o.data = .cell v)) → (∀ y u, y ≠ x → Var s.heap env y u → Var h' env y u) → Var h' env x v →
      (∃ m, h'.Ns env.locals m) → (∀ n c, env.kindOf n = some .cell → env.cells.lookup n = some c → h₀.objs.size ≤ c → ∃ v, h'.IsCell c v) → (∀ b o, s.heap.get? b = some o → Pl o → h'.get? b = some o) ∧ Var h' env x v ∧ Fs w av q h₀ env σ' ω' h' := by
    intro h' L hL hs hd hv hv' hns hcel
    have sq : ∀ b o, s.heap.get? b = some o → Pl o → h'.get? b = some o := fun b o e hp => (hs.2 _ fun q' => by
      subst q'
      rcases (hd o e).2.2 with ⟨es, n, k3⟩ | ⟨v, k3⟩
      · exact hp.1 _ _ k3
      · exact hp.2.1 _ k3).trans e
    have sk : SeqKeep av s.heap h' := fun b o it n _ e hdd => sq b o e (.seq hdd)
    have g' : Gd w h' := F.sees.gd.but F.g0 hL hs fun o vs e => (hd o e).1 vs
    refine ⟨sq, hv', ⟨F.sees.kind, F.sees.glob, F.sees.blt, ⟨g', fun a ha => ?_, F.sees.gv.kn⟩, fun y d e => ?_⟩, F.g0, F.ext.but F.g0 hL hs (fun o vs e => (hd o e).1 vs), hns, F.fresh, hcel, F.apart, hω h' hv hv' sq⟩
    · obtain ⟨h1, o, e, hdd⟩ := F.sees.gv.own a ha
      exact ⟨h1, o, (hs.2 _ fun q' => by
        subst q'
        rcases hd o e with ⟨_, _, k3⟩
        rcases k3 with ⟨es, n, k3⟩ | ⟨v, k3⟩
        · exact hdd.1 _ _ k3
        · exact hdd.2.1 _ k3).trans e, hdd⟩
    · rcases hσ y d e with ⟨rfl, r⟩ | ⟨hy, e'⟩
      · exact ⟨v, hv', r.mono sk⟩
      · obtain ⟨u, a, b⟩ := F.sees.var y d e'
        exact ⟨u, hv y u hy a, b.mono sk⟩
  have hdict : ∀ o, s.heap.get? env.locals = some o → (∀ vs, o.data ≠ .fields vs) ∧ (∀ it n, o.data ≠ .seq it n) ∧ ((∃ es n, o.data = .dict es n) ∨ ∃ v, o.data = .cell v) := fun o e => by
    obtain ⟨m, o', es, ep, e', hd, _⟩ := F.ns
    rw [e] at e'; cases e'
    exact ⟨(fun vs hq => by rw [hd] at hq; cases hq), (fun it n hq => by rw [hd] at hq; cases hq), .inl ⟨_, _, hd⟩⟩
  have cellNe : ∀ {c : Addr} {v : Option Value}, s.heap.IsCell c v → c ≠ env.locals := fun {c v} hc q' => by
    obtain ⟨m, o', es, ep, e', hd, _⟩ := F.ns
    obtain ⟨o, e, hd'⟩ := hc
    rw [q', e'] at e; cases e; rw [hd] at hd'; cases hd'
  rcases hx with hx | ⟨hx, c, hc, h1⟩
  · obtain ⟨m, hm⟩ := F.ns
    refine wpAny_storeName_local hx hm (fun h' hn hs => (fun mm => h _ ⟨_, _, rfl⟩ mm.1 mm.2.1 mm.2.2 fun _ => hs) (main h' env.locals F.fresh hs hdict (fun y u hy V => ?_) ⟨hdb, .inl ⟨hx, _, hn, by simp⟩⟩ ⟨_, hn⟩ fun n c a b h1 => ?_)) (by rw [F.sees.kind]; rfl)
    · refine ⟨V.1, ?_⟩
      rcases V.2 with ⟨a, m', b, c⟩ | ⟨a, c, b, d⟩ | ⟨a, a', c, b, d⟩
      · exact .inl ⟨a, _, hn, by simp only [if_neg hy]; rw [Ns.uniq hm b]; exact c⟩
      · exact .inr (.inl ⟨a, c, b, d.sameBut hs (cellNe d)⟩)
      · exact .inr (.inr ⟨a, a', c, b, d.sameBut hs (cellNe d)⟩)
    · obtain ⟨u, h2⟩ := F.cel n c a b h1
      exact ⟨u, h2.sameBut hs (cellNe h2)⟩
  · obtain ⟨u, h2⟩ := F.cel x c hx hc h1
    refine wpAny_storeName_cell F.sees.kind hx hc h2 fun h' hn hs => (fun mm => h _ ⟨_, _, rfl⟩ mm.1 mm.2.1 mm.2.2 fun hl => by rw [hx] at hl; cases hl) (main h' c h1 hs (fun o e => ?_) (fun y u hy V => ?_) ⟨hdb, .inr (.inl ⟨hx, c, hc, hn⟩)⟩ ?_ fun n c' a b hc' => ?_)
    · obtain ⟨o', e', hd⟩ := h2
      rw [e] at e'; cases e'
      exact ⟨(fun vs hq => by rw [hd] at hq; cases hq), (fun it n hq => by rw [hd] at hq; cases hq), .inr ⟨_, hd⟩⟩
    · refine ⟨V.1, ?_⟩
      rcases V.2 with ⟨a, m', b, cc⟩ | ⟨a, c', b, d⟩ | ⟨a, a', c', b, d⟩
      · exact .inl ⟨a, m', b.sameBut hs (Ne.symm (cellNe h2)), cc⟩
      · exact .inr (.inl ⟨a, c', b, d.sameBut hs fun q' => hy (F.apart y x c hx h1 (.inl a) (q' ▸ b) hc)⟩)
      · exact .inr (.inr ⟨a, a', c', b, d.sameBut hs fun q' => hy (F.apart y x c hx h1 (.inr a) (q' ▸ b) hc)⟩)
    · obtain ⟨m, hm⟩ := F.ns
      exact ⟨m, hm.sameBut hs (Ne.symm (cellNe h2))⟩
    · by_cases q' : c' = c
      · subst q'; exact ⟨_, hn⟩
      · obtain ⟨u', k2⟩ := F.cel n c' a b hc'
        exact ⟨u', k2.sameBut hs q'⟩
theorem Fs.putV {x : Str} {v : Value} {σ' : Sg} {ω' : Om} {Q : Unit → Shared → Prop} (F : Fs w av q h₀ env σ ω s.heap) (hx : env.kindOf x = some .local ∨ (env.kindOf x = some .cell ∧ ∃ c, env.cells.lookup x = some c ∧ h₀.objs.size ≤ c)) (hdb : (x == ("__debug__" : Str)) = false)
    (hσ : ∀ y d, σ' y = some d → (y = x ∧ Rep av s.heap v d) ∨ (y ≠ x ∧ σ y = some d))
    (hω : ∀ h', (∀ y u, y ≠ x → Var s.heap env y u → Var h' env y u) → Var h' env x v → (∀ b o, s.heap.get? b = some o → Pl o → h'.get? b = some o) → Own av h₀ env h' ω')
    (h : ∀ s', Same s s' → (∀ b o, s.heap.get? b = some o → Pl o → s'.heap.get? b = some o) → Var s'.heap env x v → Fs w av q h₀ env σ' ω' s'.heap → Q () s') : wpAny M A (storeName env x v) Q E s :=
  F.putW hx hdb hσ hω fun s' a b c d _ => h s' a b c d
theorem Fs.put {x : Str} {v : Value} {σ' : Sg} {ω' : Om} {Q : Unit → Shared → Prop} (F : Fs w av q h₀ env σ ω s.heap) (hx : env.kindOf x = some .local ∨ (env.kindOf x = some .cell ∧ ∃ c, env.cells.lookup x = some c ∧ h₀.objs.size ≤ c)) (hdb : (x == ("__debug__" : Str)) = false)
    (hσ : ∀ y d, σ' y = some d → (y = x ∧ Rep av s.heap v d) ∨ (y ≠ x ∧ σ y = some d))
    (hω : ∀ h', (∀ y u, y ≠ x → Var s.heap env y u → Var h' env y u) → Var h' env x v → (∀ b o, s.heap.get? b = some o → Pl o → h'.get? b = some o) → Own av h₀ env h' ω')
    (h : ∀ s', Same s s' → (∀ b o, s.heap.get? b = some o → Pl o → s'.heap.get? b = some o) → Fs w av q h₀ env σ' ω' s'.heap → Q () s') : wpAny M A (storeName env x v) Q E s :=
  F.putV hx hdb hσ hω fun s' a b _ c => h s' a b c
end
end Mine

set_option maxRecDepth 100000
set_option maxHeartbeats 1000000
namespace Mine

/-- statements: R tells the ends -/
noncomputable def Ex (w : Wd) (k : Nat) (q : Bool) (h₀ : Heap) (env : Env) (av : List Addr) (σ : Sg) (ω : Om) (ss : List Stmt) (R : Flow → Heap → Prop) : Prop :=
  ∀ (A : Around) (s : Shared) (E : Value → Shared → Prop) (Q : Flow → Shared → Prop), Room k A → Fs w av q h₀ env σ ω s.heap →
    (∀ f s', Mv av s s' → R f s'.heap → Q f s') → wpAny (model PP w.w) A (execs ss env) Q E s

/-- a name that may be stored -/
noncomputable def Sto (h₀ : Heap) (env : Env) (x : Str) : Prop := (env.kindOf x = some .local ∨ (env.kindOf x = some .cell ∧ ∃ c, env.cells.lookup x = some c ∧ h₀.objs.size ≤ c)) ∧ (x == ("__debug__" : Str)) = false

noncomputable def Om.not (ω : Om) (x : Str) : Prop := ∀ p, ω = some p → p.1 ≠ x

section
variable {w : Wd} {av : List Addr} {k : Nat} {q : Bool} {h₀ : Heap} {env : Env} {σ : Sg} {ω : Om} {R : Flow → Heap → Prop} {rest : List Stmt}

theorem Own.keepSeq {h h' : Heap} {x : Str} (o : Own av h₀ env h ω) (hx : ω.not x) (hv : ∀ y u, y ≠ x → Var h env y u → Var h' env y u) (hk : ∀ b o, h.get? b = some o → Pl o → h'.get? b = some o) : Own av h₀ env h' ω := by
  cases ω with
  | none => trivial
  | some p =>
    obtain ⟨y, a, ds⟩ := p
    obtain ⟨h1, h2, h3, vs, n, h4, h5⟩ := o
    exact ⟨h1, h2, hv _ _ (hx _ rfl) h3, vs, n, hk _ _ h4 (.seq rfl), h5.mono fun b o it m _ e hd => hk b o e (.seq hd)⟩

theorem Fs.set {M : Model} {A : Around} {E : Value → Shared → Prop} {s : Shared} {x : Str} {v : Value} {d : D} {Q : Unit → Shared → Prop} (F : Fs w av q h₀ env σ ω s.heap) (hx : Sto h₀ env x) (hω : ω.not x) (r : Rep av s.heap v d)
    (h : ∀ s', Mv [] s s' → Fs w av q h₀ env (σ.set x d) ω s'.heap → Q () s') : wpAny M A (storeName env x v) Q E s :=
  F.put (σ' := σ.set x d) (ω' := ω) hx.1 hx.2 (fun y e hy => by
    unfold Sg.set at hy
    split at hy
    · rename_i hyx; cases hy; exact .inl ⟨hyx, r⟩
    · rename_i hyx; exact .inr ⟨hyx, hy⟩) (fun h' hv _ hk => F.own.keepSeq hω hv hk) fun s' a c b => h s' (.of a c) b

theorem Ex.nil (h : ∀ hp, Fs w av q h₀ env σ ω hp → R .next hp) : Ex w k q h₀ env av σ ω [] R := fun A s E Q rm F hQ => wpAny_execs_nil (hQ _ _ .refl (h _ F))

theorem Ex.assign {x : Str} {px pos : Pos} {e : Expr} {d : D} (he : Ev w av k q env σ e d) (hx : Sto h₀ env x) (h : Ex w k q h₀ env av (σ.set x d) ω rest R) (hω : autoParam (ω.not x) hold_tIE._auto_1)
    (hs : autoParam (swapsWith e (some (.Name x px)) pos.line env = pure false) PyProof.Rows.call_M_of_MD._auto_3) : Ex w k q h₀ env av σ ω (.Assign [.Name x px] e pos :: rest) R := fun A s E Q rm F hQ =>
  wpAny_execs_cons (wpAny_Assign_Name (he A s E _ rm F.sees fun v s₁ r k₁ => (F.extend k₁.ext).set hx hω r fun s₂ sm F₂ => h A s₂ E Q rm F₂ fun f s₃ sm' hr => hQ f s₃ ((k₁.mv.trans sm.weak).trans sm') hr) hs)

theorem Ex.ret {e : Expr} {pos : Pos} {d : D} (he : Ev w av k q env σ e d) (h : ∀ v hp, Rep av hp v d → Fs w av q h₀ env σ ω hp → R (.ret v) hp) : Ex w k q h₀ env av σ ω (.Return (some e) pos :: rest) R := fun A s E Q rm F hQ =>
  wpAny_execs_cons (wpAny_Return_some (he A s E _ rm F.sees fun v s₁ r k₁ => hQ _ _ k₁.mv (h v _ r (F.extend k₁.ext))))

/-- go on with the rest behind a statement's plain end -/
noncomputable def Nx (w : Wd) (k : Nat) (q : Bool) (h₀ : Heap) (env : Env) (av : List Addr) (rest : List Stmt) (R : Flow → Heap → Prop) : Flow → Heap → Prop
  | .next, hp => ∃ σ' ω', Fs w av q h₀ env σ' ω' hp ∧ Ex w k q h₀ env av σ' ω' rest R
  | f, hp => R f hp

theorem Nx.run {A : Around} {s s₁ : Shared} {E : Value → Shared → Prop} {Q : Flow → Shared → Prop} {f : Flow} (rm : Room k A) (sm : Mv av s s₁) (n : Nx w k q h₀ env av rest R f s₁.heap) (hQ : ∀ f s', Mv av s s' → R f s'.heap → Q f s') :
    (match (generalizing := false) f with | .next => wpAny (model PP w.w) A (execs rest env) Q E s₁ | f => Q f s₁) := by
  cases f with
  | next => obtain ⟨σ', ω', F, h⟩ := n; exact h A s₁ E Q rm F fun f s₂ sm' hr => hQ f s₂ (sm.trans sm') hr
  | brk => exact hQ _ _ sm n
  | cont => exact hQ _ _ sm n
  | ret v => exact hQ _ _ sm n

theorem Ex.iff {t : Expr} {body els : List Stmt} {pos : Pos} {c : Bool} (ht : Tr w av k q env σ t c) (h1 : c = true → Ex w k q h₀ env av σ ω body (Nx w k q h₀ env av rest R)) (h2 : c = false → Ex w k q h₀ env av σ ω els (Nx w k q h₀ env av rest R)) :
    Ex w k q h₀ env av σ ω (.If t body els pos :: rest) R := fun A s E Q rm F hQ =>
  wpAny_execs_cons (wpAny_If (ht A s E _ rm F.sees fun s₁ k₁ => by
    have F₁ := F.extend k₁.ext
    cases c with
    | true => rw [if_pos rfl]; exact h1 rfl A s₁ E _ rm F₁ fun f s₂ sm hr => hr.run rm (k₁.mv.trans sm) hQ
    | false => rw [if_neg Bool.false_ne_true]; exact h2 rfl A s₁ E _ rm F₁ fun f s₂ sm hr => hr.run rm (k₁.mv.trans sm) hQ))
theorem Ex.ifF {t : Expr} {body : List Stmt} {pos : Pos} (ht : Tr w av k q env σ t false) (h : Ex w k q h₀ env av σ ω rest R) : Ex w k q h₀ env av σ ω (.If t body [] pos :: rest) R :=
  Ex.iff ht (fun e => by cases e) fun _ => Ex.nil fun hp F => ⟨_, _, F, h⟩

/-! stores of several names -/
noncomputable def Sg.sets (σ : Sg) : List Str → List D → Sg
  | x :: xs, d :: ds => (σ.set x d).sets xs ds
  | _, _ => σ
noncomputable def Stores (h₀ : Heap) (env : Env) : List (Value → Sem Unit) → List Str → Prop
  | f :: fs, x :: xs => (∀ (M : Model) (A : Around) (E : Value → Shared → Prop) (s : Shared) (v : Value) (Q : Unit → Shared → Prop), wpAny M A (storeName env x v) Q E s → wpAny M A (f v) Q E s) ∧ Sto h₀ env x ∧ Stores h₀ env fs xs
  | [], [] => True
  | _, _ => False
theorem Stores.run {M : Model} {A : Around} {E : Value → Shared → Prop} : ∀ {fs : List (Value → Sem Unit)} {xs : List Str} {vs : List Value} {ds : List D} {σ : Sg} {s : Shared} {Q : Unit → Shared → Prop}, Stores h₀ env fs xs → (∀ x ∈ xs, ω.not x) → Reps av s.heap vs ds → vs.length = xs.length →
    Fs w av q h₀ env σ ω s.heap → (∀ s', Mv [] s s' → Fs w av q h₀ env (σ.sets xs ds) ω s'.heap → Q () s') → wpAny M A (assignInOrder fs vs) Q E s := by
  intro fs
  induction fs with
  | nil =>
    intro xs vs ds σ s Q st hω r hl F h
    cases xs with
    | cons x xs => exact (show False from st).elim
    | nil =>
      cases r with
      | nil => exact wpAny_pure (h _ .refl F)
      | cons a b => cases hl
  | cons f fs ih =>
    intro xs vs ds σ s Q st hω r hl F h
    cases xs with
    | nil => exact (show False from st).elim
    | cons x xs =>
      cases r with
      | nil => cases hl
      | @cons v d vs ds r rs =>
        rw [assignInOrder]
        refine wpAny_bind (wpAny_holding (st.1 _ _ _ _ _ _ (F.put (σ' := σ.set x d) (ω' := ω) st.2.1.1 st.2.1.2 (fun y e hy => ?_) (fun h' hv _ hk => F.own.keepSeq (hω x (.head _)) hv hk) fun s₁ sm sq F₁ => ?_)))
        · unfold Sg.set at hy
          split at hy
          · rename_i hyx; cases hy; exact .inl ⟨hyx, r⟩
          · rename_i hyx; exact .inr ⟨hyx, hy⟩
        · exact ih st.2.2 (fun y hy => hω y (.tail _ hy)) (rs.mono fun b o it n _ e hd => sq b o e (.seq hd)) (Nat.succ.inj hl) F₁ fun s₂ sm' F₂ => h s₂ (Mv.trans (.of sm sq) sm') F₂
end
end Mine

set_option maxRecDepth 100000
set_option maxHeartbeats 1000000
namespace Mine
section
variable {w : Wd} {av : List Addr} {k : Nat} {q : Bool} {h₀ : Heap} {env : Env} {σ : Sg} {ω : Om} {R : Flow → Heap → Prop} {rest : List Stmt}

theorem sto_assign {x : Str} {p : Pos} {fs : List (Value → Sem Unit)} {xs : List Str} (hx : Sto h₀ env x) (h : Stores h₀ env fs xs) : Stores h₀ env (assign (.Name x p) env :: fs) (x :: xs) := ⟨fun _ _ _ _ _ _ h => wpAny_assign_Name h, hx, h⟩
theorem sto_bind {x : Str} {fs : List (Value → Sem Unit)} {xs : List Str} (hx : Sto h₀ env x) (h : Stores h₀ env fs xs) : Stores h₀ env ((fun v => bindName env x v) :: fs) (x :: xs) := ⟨fun _ _ _ _ _ _ h => wpAny_bindName h, hx, h⟩
theorem sto_nil : Stores h₀ env [] [] := trivial

theorem extBut_new {h h' : Heap} (e : Heap.ExtBut h.objs.size h h') : ∀ b o, h.get? b = some o → h'.get? b = some o := fun b o e' => e b o (Nat.ne_of_lt (Heap.lt_size e')) e'

/-- a tuple's items into names -/
theorem Fs.unpack {A : Around} {s : Shared} {E : Value → Shared → Prop} {elts : List Expr} {kk : Nat} {tp : Pos} {v : Value} {xs : List Str} {ds : List D} {Q : Unit → Shared → Prop} (F : Fs w av q h₀ env σ ω s.heap) (rm : Room k A) (r : Rep av s.heap v (.tup ds))
    (hx : Stores h₀ env ((assignEach elts env).map (·.2)) xs) (hω : ∀ x ∈ xs, ω.not x) (hl : ds.length = xs.length) (he : (assignEach elts env).length = xs.length) (hst : (assignEach elts env).findIdx? (·.1) = none)
    (h : ∀ s', Mv [] s s' → Fs w av q h₀ env (σ.sets xs ds) ω s'.heap → Q () s') : wpAny (model PP w.w) A (assign (.Tuple elts kk tp) env v) Q E s := by
  cases r with | @tup a vs n _ ha l r =>
  refine wpAny_assign_Tuple rm.hd ⟨_, l, rfl, _, rfl⟩ (by rw [List.size_toArray, he, r.length, hl]) hst fun h' hx' => ?_
  have x : Ext w q s.heap h' := .of (extBut_new hx')
  exact Stores.run (s := { s with heap := h' }) hx hω (r.mono (x.seq F.sees.gd)) (by rw [r.length, hl]) (F.extend x) fun s' sm F' => h s' (Mv.trans ⟨⟨_, _, rfl⟩, x.kf⟩ sm) F'

theorem Ex.tupP {elts : List Expr} {kk : Nat} {tp pos : Pos} {e : Expr} {xs : List Str} {ds : List D} (he : Ev w av k q env σ e (.tup ds)) (hx : Stores h₀ env ((assignEach elts env).map (·.2)) xs) (hl : ds.length = xs.length) (h : Ex w k q h₀ env av (σ.sets xs ds) ω rest R)
    (hω : autoParam (∀ x ∈ xs, ω.not x) hold_tIIIE._auto_1) (hle : autoParam ((assignEach elts env).length = xs.length) PyProof.Rows.call_M_of_MD._auto_3) (hst : autoParam ((assignEach elts env).findIdx? (·.1) = none) PyProof.Rows.call_M_of_MD._auto_3)
    (hs : autoParam (swapsWithSole [.Tuple elts kk tp] e pos.line env = pure false) PyProof.Rows.call_M_of_MD._auto_3) (hw : autoParam (swappedStores [.Tuple elts kk tp] e env = pure none) PyProof.Rows.call_M_of_MD._auto_3) : Ex w k q h₀ env av σ ω (.Assign [.Tuple elts kk tp] e pos :: rest) R := fun A s E Q rm F hQ =>
  wpAny_execs_cons (Assign_Tuple (he A s E _ rm F.sees fun v s₁ r k₁ => (F.extend k₁.ext).unpack rm r hx hω hl hle hst fun s₂ sm F₂ => h A s₂ E Q rm F₂ fun f s₃ sm' hr => hQ f s₃ ((k₁.mv.trans sm.weak).trans sm') hr) hs hw)

theorem Reps.reverse {h : Heap} {vs : List Value} {ds : List D} (r : Reps av h vs ds) : Reps av h vs.reverse ds.reverse := by
  induction vs generalizing ds with
  | nil => cases r; exact .nil
  | cons v vs ih => cases r with | cons a b => rw [List.reverse_cons, List.reverse_cons]; exact (ih b).append (.cons a .nil)

theorem Ex.tupS {elts : List Expr} {kk : Nat} {tp pos : Pos} {e : Expr} {xs : List Str} {ds : List D} (he : Ev w av k q env σ e (.tup ds)) (hx : Stores h₀ env (xs.reverse.map fun n => bindName env n) xs.reverse) (hl : ds.length = xs.length) (h : Ex w k q h₀ env av (σ.sets xs.reverse ds.reverse) ω rest R)
    (hω : autoParam (∀ x ∈ xs, ω.not x) hold_tIIIE._auto_1)
    (hs : autoParam (swapsWithSole [.Tuple elts kk tp] e pos.line env = pure false) PyProof.Rows.call_M_of_MD._auto_3) (hw : autoParam (swappedStores [.Tuple elts kk tp] e env = pure (some xs)) PyProof.Rows.call_M_of_MD._auto_3) : Ex w k q h₀ env av σ ω (.Assign [.Tuple elts kk tp] e pos :: rest) R := fun A s E Q rm F hQ =>
  wpAny_execs_cons (Assign_Tuple_swapped (he A s E _ rm F.sees fun v s₁ r k₁ => by
    have F₁ := F.extend k₁.ext
    cases r with | @tup a vs n _ ha l r =>
    have e1 : xs.length = vs.toArray.size := by rw [List.size_toArray, r.length, hl]
    rw [e1]
    refine wpAny_unpackItems_tuple rm.hd ⟨_, l, rfl, _, rfl⟩ fun h' hx' => ?_
    have x : Ext w q s₁.heap h' := .of (extBut_new hx')
    exact Stores.run (s := { s₁ with heap := h' }) hx (fun y hy => hω y (List.mem_reverse.mp hy)) (r.reverse.mono (x.seq F₁.sees.gd)) (by simp [r.length, hl]) (F₁.extend x) fun s' sm F' =>
      h A s' E Q rm F' fun f s₃ sm' hr => hQ f s₃ ((k₁.mv.trans (Mv.trans ⟨⟨_, _, rfl⟩, x.kf⟩ sm.weak)).trans sm') hr) hs hw)

/-- text += text -/
theorem Ex.augS {x : Str} {px pos : Pos} {e : Expr} {a b : Str} (ha : σ x = some (.str a)) (he : Ev w av k q env σ e (.str b)) (hx : Sto h₀ env x) (hz : a.length + b.length ≤ sizeLine) (h : Ex w k q h₀ env av (σ.set x (.str (a ++ b))) ω rest R) (hω : autoParam (ω.not x) hold_tIE._auto_1) :
    Ex w k q h₀ env av σ ω (.AugAssign (.Name x px) .Add e pos :: rest) R := fun A s E Q rm F hQ => by
  obtain ⟨v, V, r⟩ := F.sees.var x _ ha
  refine wpAny_execs_cons (wpAny_AugAssign_Name (V.load F.sees.kind (he A s E _ rm F.sees fun u s₁ ru k₁ => ?_)))
  cases r; cases ru
  exact iadd_str (fun t tk => ((F.extend k₁.ext).set (s := { s₁ with toks := tk }) hx hω (.str _ _) fun s₂ sm F₂ => h A s₂ E Q rm F₂ fun f s₃ sm' hr => hQ f s₃ ((k₁.mv.trans (Mv.trans (.of ⟨_, _, rfl⟩ fun _ _ e _ => e) sm.weak)).trans sm') hr)) hz

/-- an empty list that is to be filled -/
theorem Ex.new {x : Str} {px lp pos : Pos} (hx : Sto h₀ env x) (h : ∀ a, a ∉ av → Ex w k q h₀ env (a :: av) (fun y => if y = x then none else σ y) (some (x, a, [])) rest R) (hs : autoParam (swapsWith (.List [] lp) (some (.Name x px)) pos.line env = pure false) PyProof.Rows.call_M_of_MD._auto_3) :
    Ex w k q h₀ env av σ none (.Assign [.Name x px] (.List [] lp) pos :: rest) R := fun A s E Q rm F hQ => by
  refine wpAny_execs_cons (wpAny_Assign_Name (wpAny_List (wpAny_items_nil ⟨Nat.zero_le _, ?_⟩)) hs)
  have hn : s.heap.get? s.heap.objs.size = none := Heap.get?_none_of_le (Nat.le_refl _)
  have x1 : Ext w q s.heap (s.heap.push { cls := .type "list", data := .seq ([] : List Value).toArray }) := .push _
  have F₁ := F.extend x1
  have hg : (s.heap.push { cls := .type "list", data := .seq ([] : List Value).toArray }).get? s.heap.objs.size = some { cls := .type "list", data := .seq ([] : List Value).toArray } := Heap.get?_push_size _ rfl
  have h0 : h₀.objs.size ≤ s.heap.objs.size := by
    obtain ⟨m, n⟩ := F.ns
    exact Nat.le_trans F.fresh (Nat.le_of_lt n.lt)
  have ne : 142 ≤ s.heap.objs.size := F.sees.gd.size
  have F₂ : Fs w (s.heap.objs.size :: av) q h₀ env σ none (s.heap.push { cls := .type "list", data := .seq ([] : List Value).toArray }) :=
    { F₁ with
      sees := ⟨F.sees.kind, F.sees.glob, F.sees.blt, ⟨F₁.sees.gd, fun a ha => (List.mem_cons.mp ha).elim (fun e => e ▸ ⟨ne, _, hg, .seq rfl⟩) (F₁.sees.gv.own a), fun a ha => (List.mem_cons.mp ha).elim (fun e => e ▸ F.sees.gd.kfree hn) (F₁.sees.gv.kn a)⟩, fun y d e => by
        obtain ⟨v, a, b⟩ := F.sees.var y d e
        exact ⟨v, a.ext F.sees.gd x1, (b.more hn).mono (x1.seq F.sees.gd)⟩⟩
      own := trivial }
  exact F₂.put (s := { s with heap := s.heap.push { cls := .type "list", data := .seq ([] : List Value).toArray } }) (x := x) (σ' := fun y => if y = x then none else σ y) (ω' := some (x, s.heap.objs.size, [])) hx.1 hx.2
    (fun y d e => by split at e <;> first | cases e | exact .inr ⟨by assumption, e⟩)
    (fun h' _ hv sq => ⟨.head _, h0, hv, [], _, sq _ _ hg (.seq rfl), .nil⟩)
    fun s₂ sm sq F₃ => h _ F.sees.gv.new A s₂ E Q rm F₃ fun f s₃ sm' hr => hQ f s₃ ⟨(Same.trans ⟨_, _, rfl⟩ sm).trans sm'.1, fun b o e p h1 h2 h3 => sm'.2 b o (sq b o (Heap.get?_push_of_some _ e) p) p h1 h2 (fun hb => (List.mem_cons.mp hb).elim (fun e' => by rw [e', hn] at e; cases e) h3)⟩ hr

/-- the list is filled: data from here on -/
theorem Ex.rel {x : Str} {a : Addr} {ds : List D} (hna : a ∉ av) (h : Ex w k q h₀ env av (σ.set x (.list ds)) none rest R) : Ex w k q h₀ env (a :: av) σ (some (x, a, ds)) rest R := fun A s E Q rm F hQ => by
  obtain ⟨_, h0, hv, vs, n, l, r⟩ := F.own
  have F' : Fs w av q h₀ env (σ.set x (.list ds)) none s.heap :=
    { F with
      sees := ⟨F.sees.kind, F.sees.glob, F.sees.blt, ⟨F.sees.gd, fun a ha => F.sees.gv.own a (.tail _ ha), fun a ha => F.sees.gv.kn a (.tail _ ha)⟩, fun y d e => by
        unfold Sg.set at e
        split at e
        · rename_i hy; cases e; subst hy; exact ⟨_, hv, .list hna l (r.less fun a ha => .tail _ ha)⟩
        · obtain ⟨v, a, b⟩ := F.sees.var y d e
          exact ⟨v, a, b.less fun a ha => .tail _ ha⟩⟩
      own := trivial }
  exact h A s E Q rm F' fun f s' sm hr => hQ f s' ⟨sm.1, fun b o e p h1 h2 h3 => sm.2 b o e p h1 h2 fun hb => h3 (.tail _ hb)⟩ hr

/-- a list that is being filled gets one more -/
theorem Ex.app {x : Str} {px p1 p2 p3 : Pos} {pl : Sem Bool} {a : Addr} {ds : List D} {e : Expr} {d : D} (he : Ev w (a :: av) k q env σ e d) (hz : ds.length ≤ sizeLine) (h : Ex w k q h₀ env (a :: av) σ (some (x, a, ds ++ [d])) rest R)
    (hse : autoParam (starEach [e] env = [(false, eval e env)]) PyProof.Rows.call_M_of_MD._auto_3)
    (hcall : autoParam (eval (.Call (.Attribute (.Name x px) (Str.ofString "append") p1) [e] [] p2) env = (do
      let ov ← eval (.Name x px) env
      standAt p1.atName
      let (f, first) ← holding [ov] (getMethod ov (Str.ofString "append") pl)
      callWith p2 f first (backTo p2 (starEach [e] env)) [])) PyProof.Rows.call_M_of_MD._auto_3)
    (hi : autoParam (interactive env = false) PyProof.Rows.call_M_of_MD._auto_3) (hs : autoParam (swapsWith (.Call (.Attribute (.Name x px) (Str.ofString "append") p1) [e] [] p2) none p3.line env = pure false) PyProof.Rows.call_M_of_MD._auto_3) :
    Ex w k q h₀ env (a :: av) σ (some (x, a, ds)) (.Expr (.Call (.Attribute (.Name x px) (Str.ofString "append") p1) [e] [] p2) p3 :: rest) R := fun A s E Q rm F hQ => by
  obtain ⟨_, h0, hv, vs, n, l, r⟩ := F.own
  refine wpAny_execs_cons (wpAny_Expr (MethodCall_ (pl := pl) (wpAny_Name (hv.load F.sees.kind ?_) hv.1) hcall) hi hs)
  refine getMethod_builtin (T := "list") ⟨_, l, rfl⟩ PySem.F.plainAttrs_list PySem.F.slot_list_append PySem.F.type_list_append (fun a e => by cases e; exact ⟨_, l, rfl⟩) ?_
  refine callWith_method1 ((Evs.cons he .nil hse) p2 A s E _ rm F.sees fun ys s₁ rs k₁ => ?_) hse rfl
  cases rs with | @cons yv _ _ _ ry rs =>
  cases rs
  have F₁ := F.extend k₁.ext
  obtain ⟨_, _, hv₁, vs₁, n₁, l₁, r₁⟩ := F₁.own
  show wpAny _ A (call (.builtin "list.append") [.ref a, _]) _ _ s₁
  refine wpAny_list_append_plain ⟨n₁, l₁⟩ (fun h' hl' hs' => ?_) (by rw [List.size_toArray, r₁.length]; exact hz)
  obtain ⟨n₂, hl'⟩ := hl'
  have nd : ∀ o, s₁.heap.get? a = some o → Pl o := fun o e => by rw [l₁] at e; cases e; exact .seq rfl
  have sk : SeqKeep (a :: av) s₁.heap h' := fun b o it m hb e hd => (hs'.2 b fun e' => hb (e' ▸ .head _)).trans e
  have ns' : ∀ {L : Addr} {m : Str → Option Value}, s₁.heap.Ns L m → h'.Ns L m := fun {L m} hn => hn.sameBut hs' fun e => by
    obtain ⟨o, es, ep, e', hd, _⟩ := hn
    rw [e] at e'; exact (nd o e').1 _ _ hd
  have cl' : ∀ {c : Addr} {v : Option Value}, s₁.heap.IsCell c v → h'.IsCell c v := fun {c v} hc => hc.sameBut hs' fun e => by
    obtain ⟨o, e', hd⟩ := hc
    rw [e] at e'; exact (nd o e').2.1 _ hd
  have vr' : ∀ {y : Str} {u : Value}, Var s₁.heap env y u → Var h' env y u := fun {y u} V => ⟨V.1, by
    rcases V.2 with ⟨a, m, b, c⟩ | ⟨a, c, b, d⟩ | ⟨a, a', c, b, d⟩
    · exact .inl ⟨a, m, ns' b, c⟩
    · exact .inr (.inl ⟨a, c, b, cl' d⟩)
    · exact .inr (.inr ⟨a, a', c, b, cl' d⟩)⟩
  have hnf : ∀ o vs, s₁.heap.get? a = some o → o.data ≠ .fields vs := fun o vs e hd => by rw [l₁] at e; cases e; cases hd
  have g' : Gd w h' := F₁.sees.gd.but F₁.g0 h0 hs' hnf
  have hpush : vs₁.toArray.push yv = (vs₁ ++ [yv]).toArray := by simp
  have F₂ : Fs w (a :: av) q h₀ env σ (some (x, a, ds ++ [d])) h' :=
    { sees := ⟨F.sees.kind, F.sees.glob, F.sees.blt, ⟨g', fun b hb => by
        obtain ⟨q1, o, e, hp⟩ := F₁.sees.gv.own b hb
        by_cases hba : b = a
        · subst hba; exact ⟨q1, _, hl', .seq rfl⟩
        · exact ⟨q1, o, (hs'.2 b hba).trans e, hp⟩, F₁.sees.gv.kn⟩, fun y d e => by
        obtain ⟨v, V, r⟩ := F₁.sees.var y d e
        exact ⟨v, vr' V, r.mono sk⟩⟩
      g0 := F.g0
      ext := F₁.ext.but F.g0 h0 hs' hnf
      ns := let ⟨m, hm⟩ := F₁.ns; ⟨m, ns' hm⟩
      fresh := F.fresh
      cel := fun n c a b h1 => let ⟨v, h2⟩ := F₁.cel n c a b h1; ⟨v, cl' h2⟩
      apart := F.apart
      own := ⟨.head _, h0, vr' hv₁, vs₁ ++ [yv], n₂, by rw [← hpush]; exact hl', (r₁.append (.cons ry .nil)).mono sk⟩ }
  exact h A { s₁ with heap := h' } E Q rm F₂ fun f s₃ sm' hr => hQ f s₃ ((k₁.mv.trans ⟨⟨_, _, rfl⟩, fun b o e p h1 h2 h3 => (hs'.2 b fun e' => h3 (e' ▸ .head _)).trans e⟩).trans sm') hr
end

/-! a def is entered -/
noncomputable def sg (xs : List Str) (ds : List D) : Sg := fun x => (xs.zip ds).reverse.lookup x
theorem lookup_append_str {β : Type} (x : Str) : ∀ (l l' : List (Str × β)), (l ++ l').lookup x = (l.lookup x).or (l'.lookup x)
  | [], l' => by simp
  | (y, b) :: l, l' => by
    rw [List.cons_append, List.lookup_cons, List.lookup_cons, lookup_append_str x l l']
    cases x == y <;> simp
theorem zip_both {av : List Addr} {h : Heap} (x : Str) : ∀ {xs : List Str} {vs : List Value} {ds : List D}, Reps av h vs ds →
    ((xs.zip ds).reverse.lookup x = none ∧ (xs.zip vs).reverse.lookup x = none) ∨ ∃ v d, (xs.zip ds).reverse.lookup x = some d ∧ (xs.zip vs).reverse.lookup x = some v ∧ Rep av h v d := fun {xs} => by
  induction xs with
  | nil => exact fun _ => .inl ⟨rfl, rfl⟩
  | cons y xs ih =>
    intro vs ds r
    cases r with
    | nil => exact .inl ⟨rfl, rfl⟩
    | @cons v d' vs ds r rs =>
      rw [List.zip_cons_cons, List.reverse_cons, lookup_append_str, List.zip_cons_cons, List.reverse_cons, lookup_append_str]
      rcases ih rs with ⟨h1, h2⟩ | ⟨v2, d2, h1, h2, h3⟩
      · rw [h1, h2, List.lookup_cons, List.lookup_cons]
        cases hxy : x == y with
        | true => exact .inr ⟨v, d', rfl, rfl, r⟩
        | false => exact .inl ⟨rfl, rfl⟩
      · rw [h1, h2]; exact .inr ⟨v2, d2, rfl, rfl, h3⟩
theorem zip_lookup {av : List Addr} {h : Heap} {x : Str} {d : D} {xs : List Str} {vs : List Value} {ds : List D} (r : Reps av h vs ds) (e : (xs.zip ds).reverse.lookup x = some d) : ∃ v, (xs.zip vs).reverse.lookup x = some v ∧ Rep av h v d := by
  rcases zip_both x (xs := xs) r with ⟨h1, _⟩ | ⟨v, d2, h1, h2, h3⟩
  · rw [h1] at e; cases e
  · rw [h1] at e; cases e; exact ⟨v, h2, h3⟩

theorem Room.deeper {k : Nat} {A : Around} (r : Room (k + 1) A) (env : Env) : Room k (A.deeper env) := ⟨r.hd, by have := r.dp; show A.depth + 1 + k < _; omega, by have := r.un; show A.units + 3 + 8 * k + 100 < _; omega⟩
theorem Room.dep {k : Nat} {A : Around} (r : Room k A) : A.depth < recursionLimit := by have := r.dp; omega

/-- what a def's end must be -/
noncomputable def RetD (w : Wd) (q : Bool) (h₀ : Heap) (av : List Addr) (d : D) (f : Flow) (hp : Heap) : Prop := ∃ v, f = .ret v ∧ Rep av hp v d ∧ Ext w q h₀ hp
theorem Ex.retD {w : Wd} {av av₀ : List Addr} {k : Nat} {q : Bool} {h₀ : Heap} {env : Env} {σ : Sg} {ω : Om} {rest : List Stmt} {e : Expr} {pos : Pos} {d : D} (he : Ev w av k q env σ e d) (hs : autoParam (∀ a ∈ av₀, a ∈ av) hold_tIH._auto_1) : Ex w k q h₀ env av σ ω (.Return (some e) pos :: rest) (RetD w q h₀ av₀ d) :=
  Ex.ret he fun v hp r F => ⟨v, rfl, r.less hs, F.ext⟩

theorem Cal.defn {w : Wd} {k : Nat} {q : Bool} {a : Addr} {o : Obj} {fd : FuncData} {body : List Stmt} {xs : List Str} {ds : List D} {d : D} (ho : (hd.heap_39 w.params).lookup a = some o) (hfd : o.data = .func fd) (hbody : fd.body = .stmts body)
    (hcd : codeIn (hd.heap_39 w.params) fd.code fd.qualname = true) (hg : fd.globals = mainGlobals) (hbl : fd.builtins = builtinsNs) (hcell : ∀ x ∈ fd.scope.names, x.2 ≠ .cell) (hloc : ∀ x ∈ xs, fd.scope.names.lookup x = some .local ∧ (x == ("__debug__" : Str)) = false)
    (hbind : ∀ vs : List Value, vs.length = ds.length → bindArgs fd ⟨vs, []⟩ = pure (xs.zip vs))
    (h : ∀ h₀ L av, Ex w k q h₀ (callEnv fd L a) av (sg xs ds) none body (RetD w q h₀ av d))
    (hco : autoParam (fd.scope.isCoroutine = false) PyProof.Rows.call_M_of_MD._auto_3) (hgen : autoParam (fd.scope.isGenerator = false) PyProof.Rows.call_M_of_MD._auto_3) (hk : autoParam (fd.scope.kind = .function) PyProof.Rows.call_M_of_MD._auto_3) : Cal w (k + 1) q (.ref a) ds d := fun av A s E Q vs rm g rs hQ => by
  have hz : ∀ y ∈ xs.zip vs, y.1 ∈ xs := fun y hy => (List.of_mem_zip hy).1
  refine wpAny_call (codeAny_call_def rm.dep (g.gd.X _ _ ho) hfd g.gd.lim (codeRec_of g.gd.X hcd) hbody (BindsTo.of_eq (hbind vs rs.length)) hcell (fun y hy => (hloc _ (hz y hy)).1) (fun h₁ hns hkeep => ?_) hco hgen hk)
  have x1 : Ext w q s.heap h₁ := .of hkeep
  have F : Fs w av q s.heap (callEnv fd s.heap.objs.size a) (sg xs ds) none h₁ :=
    { sees := ⟨hk, hg, hbl, g.ext x1, fun x d e => by
        obtain ⟨v, e1, r⟩ := zip_lookup rs e
        have hx : x ∈ xs := hz (x, v) (List.mem_reverse.mp (PySem.mem_of_lookup e1))
        exact ⟨v, ⟨(hloc x hx).2, .inl ⟨(hloc x hx).1, _, hns, e1⟩⟩, r.mono (x1.seq g.gd)⟩⟩
      g0 := g.gd
      ext := x1
      ns := ⟨_, hns⟩
      fresh := Nat.le_refl _
      cel := fun n c e => absurd (PySem.mem_of_lookup (show fd.scope.names.lookup n = some .cell from e)) fun hm => hcell _ hm rfl
      apart := fun n n' c e => absurd (PySem.mem_of_lookup (show fd.scope.names.lookup n' = some .cell from e)) fun hm => hcell _ hm rfl
      own := trivial }
  refine h s.heap s.heap.objs.size av _ { s with heap := h₁, toks := _ } _ _ (rm.deeper _) F fun f s' sm hr => ?_
  obtain ⟨v, rfl, r, x2⟩ := hr
  obtain ⟨⟨h', tk, rfl⟩, _⟩ := sm
  exact hQ v _ r ⟨_, _, rfl, x2⟩
end Mine

set_option maxRecDepth 100000
set_option maxHeartbeats 1000000
namespace Mine
section
variable {w : Wd} {av : List Addr} {k : Nat} {q : Bool} {env : Env} {σ : Sg}

/-! truth -/
noncomputable def tru : D → Bool
  | .none => false
  | .bool b => b
  | .int n => n != 0
  | .str _ => false
  | .list l => !l.isEmpty
  | .tup _ => false
noncomputable def truOk : D → Bool
  | .bool _ | .int _ => true
  | .list l => decide (l.length < 2 ^ 62)
  | _ => false
theorem truth {A : Around} {s : Shared} {E : Value → Shared → Prop} {v : Value} {d : D} {Q : Bool → Shared → Prop} (r : Rep av s.heap v d) (ok : truOk d = true) (h : ∀ s', Kp w true s s' → Q (tru d) s') : wpAny (model PP w.w) A (truthy v) Q E s := by
  cases r with
  | bool b => exact wpAny_truthy_bool (h _ .refl)
  | int n t => exact truthy_int (h _ .refl)
  | @list a vs n ds ha l r =>
    have hz : ds.length < 2 ^ 62 := of_decide_eq_true (show decide (ds.length < 2 ^ 62) = true from ok)
    refine wpAny_truthy_list ⟨_, l, rfl, _, rfl⟩ (by simp only [List.size_toArray, r.length]; omega) ?_
    have e : (!vs.toArray.isEmpty) = tru (.list ds) := by
      cases r <;> rfl
    rw [e]
    exact h _ (.tok _)
  | none => cases ok
  | str => cases ok
  | tup => cases ok

theorem Tr.val {e : Expr} {d : D} (he : Ev w av k q env σ e d) (ok : autoParam (truOk d = true) PyProof.Rows.call_M_of_MD._auto_3) (hh : autoParam (isTrue e env (eval e env) = (do let v ← eval e env; standAt e.pos; holding [v] (truthy v))) PyProof.Rows.call_M_of_MD._auto_3) : Tr w av k q env σ e (tru d) := fun A s E Q rm n h =>
  wpAny_isTrue_value (he A s E _ rm n fun v s₁ r k₁ => truth r ok fun s₂ k₂ => h s₂ (k₁.trans k₂.weak)) hh
theorem Tr.nil {b : Bool} (c : Bool) : True := trivial

theorem Tr.or2 {x y : Expr} {pos : Pos} {a b : Bool} (hx : Tr w av k q env σ x a) (hy : a = false → Tr w av k q env σ y b) : Tr w av k q env σ (.BoolOp .Or [x, y] pos) (a || b) := fun A s E Q rm n h =>
  wpAny_isTrue_BoolOp (wpAny_allTrue_Or_cons (hx A s E _ rm n fun s₁ k₁ => by
    cases a with
    | true => rw [if_pos rfl]; exact h _ k₁
    | false =>
      rw [if_neg Bool.false_ne_true]
      refine wpAny_allTrue_Or_cons (hy rfl A s₁ E _ rm (n.kp k₁) fun s₂ k₂ => ?_)
      cases b with
      | true => rw [if_pos rfl]; exact h _ (k₁.trans k₂)
      | false => rw [if_neg Bool.false_ne_true]; exact wpAny_allTrue_Or_nil (h _ (k₁.trans k₂))))

/-- x and y, as a value of two bools -/
theorem Ev.and2 {x y : Expr} {pos : Pos} {a b : Bool} (hx : Ev w av k q env σ x (.bool a)) (hy : a = true → Ev w av k q env σ y (.bool b)) : Ev w av k q env σ (.BoolOp .And [x, y] pos) (.bool (a && b)) := fun A s E Q rm n h =>
  wpAny_And2 (hx A s E _ rm n fun v s₁ r k₁ => by
    cases r
    refine wpAny_truthy_bool ?_
    cases a with
    | true => rw [if_pos rfl]; exact hy rfl A s₁ E Q rm (n.kp k₁) fun u s₂ ru k₂ => h u s₂ ru (k₁.trans k₂)
    | false => rw [if_neg Bool.false_ne_true]; exact h _ _ (.bool _) k₁)

theorem Ev.neg {e : Expr} {pos : Pos} {a : Int} (he : Ev w av k q env σ e (.int a)) : Ev w av k q env σ (.UnaryOp .USub e pos) (.int (-a)) := fun A s E Q rm n h =>
  wpAny_UnaryOp (he A s E _ rm n fun v s₁ r k₁ => by cases r; exact PySem.P.neg_int (h _ _ (.int _ _) (k₁.trans (.tok _))))
theorem Ev.inv {e : Expr} {pos : Pos} {a : Int} (he : Ev w av k q env σ e (.int a)) : Ev w av k q env σ (.UnaryOp .Invert e pos) (.int (-a - 1)) := fun A s E Q rm n h =>
  wpAny_UnaryOp (he A s E _ rm n fun v s₁ r k₁ => by cases r; exact invert_int (h _ _ (.int _ _) (k₁.trans (.tok _))))

theorem mulNew {x : D} {n : Int} (h0 : 0 ≤ n) (h1 : n ≤ 1000000) {av : List Addr} {A : Around} {s : Shared} {E : Value → Shared → Prop} {Q : Value → Shared → Prop} {a b : Value} (rm : Room k A) (g : Gv w av s.heap) (ra : Rep av s.heap a (.list [x])) (rb : Rep av s.heap b (.int n))
    (h : ∀ c vs m s', s.heap.objs.size ≤ c → IsL s'.heap c vs.toArray m → Reps av s.heap vs (List.replicate n.toNat x) → Kp w true s s' → Q (.ref c) s') : wpAny (model PP w.w) A (binaryOp .Mult a b) Q E s := by
  cases rb with | int _ u =>
  cases ra with | @list l vs m _ ha hl r =>
  cases r with | @cons v _ _ _ rv rs =>
  cases rs
  refine wpAny_binaryOp_repeat_ref (T := "list") (U := "int") (by decide) ⟨_, hl, rfl⟩ (fun s' => typeIs_int s' n u) noFill_list_mul PySem.F.fills_int_mul PySem.F.slot_int_rmul repeat_list PySem.F.slot_int_index.lookup
      (call_meets PySem.F.slot_int_rmul (typeIs_int s n u) PySem.F.entry_int_rmul (PySem.F.args_int_rmul_2 _ _) (int___rmul___int_list n u l [v].toArray m)
        ⟨hl, rfl, ⟨_, hl, rfl⟩, call_meets PySem.F.slot_list_mul ⟨_, hl, rfl⟩ PySem.F.entry_list_mul (PySem.F.args_list_mul_2 _ _)
          (AutoListH.list___mul___list_int_3 l [v].toArray m n u (by simp [Builtin.List.listFitsIndex]; omega) (by simp; omega) (by simp [Builtin.List.listTooLong, sizeLine]; omega))
          ⟨hl, ?_⟩⟩)
  have e : List.foldl (fun x1 x2 => x1 ++ x2) #[] (List.replicate (if ([v].toArray).isEmpty = true then 0 else n.toNat) [v].toArray) = (List.replicate n.toNat v).toArray := by
    have : ∀ (j : Nat) (acc : Array Value), List.foldl (fun x1 x2 => x1 ++ x2) acc (List.replicate j [v].toArray) = acc ++ (List.replicate j v).toArray := by
      intro j
      induction j with
      | zero => intro acc; simp
      | succ j ih => intro acc; rw [List.replicate_succ, List.foldl_cons, ih, List.replicate_succ]; apply Array.ext'; simp
    rw [if_neg (by simp), this]; simp
  rw [e]
  refine h _ (List.replicate n.toNat v) 0 _ (Nat.le_refl _) (Heap.get?_push_size _ rfl) ?_ ⟨_, _, rfl, .push _⟩
  have rep : ∀ (h' : Heap), Rep av h' v x → ∀ j : Nat, Reps av h' (List.replicate j v) (List.replicate j x) := fun h' r j => by
    induction j with
    | zero => exact .nil
    | succ j ih => rw [List.replicate_succ, List.replicate_succ]; exact .cons r ih
  exact rep _ rv _
theorem Gv.notIn {av : List Addr} {h : Heap} (g : Gv w av h) {a : Addr} (e : h.get? a = none) : a ∉ av := fun ha => by
  obtain ⟨_, o, e', _⟩ := g.own a ha
  rw [e] at e'; cases e'
theorem Bin.mulL {x : D} {n : Int} (h0 : 0 ≤ n) (h1 : n ≤ 1000000) : Bin w k .Mult (.list [x]) (.int n) (.list (List.replicate n.toNat x)) := fun av A s E Q a b rm g ra rb h =>
  mulNew h0 h1 rm g ra rb fun c vs m s' hn hl r k => h _ _ (.list (g.notIn (Heap.get?_none_of_le hn)) hl (r.mono (k.ext.seq g.gd))) k
end
end Mine

set_option maxRecDepth 100000
set_option maxHeartbeats 1000000
namespace Mine

theorem walks_bound {w : Wd} {A : Around} {I : Addr} {fp wr : List Addr} {n : Nat} {P : Nat → Value → Prop} {St : Nat → Heap → Prop} (W : Walks PP w.w A I fp wr n P St) : Walks PP w.w A I fp wr n (fun i v => i < n ∧ P i v) St where
  sub := W.sub
  frame := W.frame
  item := fun i s Q E hi st hQ => W.item i s Q E hi st fun v h' tk hp => hQ v h' tk ⟨hi, hp⟩
  done := W.done
  self := W.self

noncomputable def special : List String := ["enumerate", "zip", "dict_itemiterator", "dict_reverseitemiterator", "odict_iterator", "itertools.zip_longest", "itertools.pairwise"]
theorem Gd.big {w : Wd} {h : Heap} (g : Gd w h) {a : Addr} (ha : h.objs.size ≤ a) : a ≠ 30 ∧ a ≠ 37 := by
  obtain ⟨p1, e1, _⟩ := g.t1.fields
  obtain ⟨p2, e2, _⟩ := g.t2.fields
  exact ⟨fun e => absurd (Heap.lt_size e1) (Nat.not_lt.mpr (e ▸ ha)), fun e => absurd (Heap.lt_size e2) (Nat.not_lt.mpr (e ▸ ha))⟩
/-- what is known of an iterator at its start: I is new over h₁ -/
structure Wk (w : Wd) (A : Around) (av : List Addr) (h₁ : Heap) (ds : List D) (I : Addr) (s₂ : Shared) (fp : List Addr) (P : Nat → Value → Prop) (St : Nat → Heap → Prop) : Prop where
  W : Walks PP w.w A I fp [I] ds.length P St
  st : St 0 s₂.heap
  lt : ∀ b ∈ fp, b < s₂.heap.objs.size
  new : h₁.get? I = none
  ge : h₁.objs.size ≤ I
  old : ∀ b o, h₁.get? b = some o → s₂.heap.get? b = some o
  item : ∀ i v, P i v → ∃ d, ds[i]? = some d ∧ Rep av h₁ v d
  obj : ∀ i h, St i h → ∃ o T vs, h.get? I = some o ∧ o.cls = .type T ∧ special.contains T = false ∧ o.data = .fields vs ∧ ∀ x u, vs[1]? ≠ some (.str x u)
  ok : ∀ i h, St i h → ∀ b ∈ fp, b ∉ av ∧ b ≠ 30 ∧ b ≠ 37 ∧ ∃ o, h.get? b = some o ∧ Pl o

noncomputable def It (w : Wd) (av : List Addr) (k : Nat) (q : Bool) (env : Env) (σ : Sg) (e : Expr) (ds : List D) : Prop :=
  ∀ (A : Around) (s : Shared) (E : Value → Shared → Prop) (Q : Value → Shared → Prop), Room k A → Sees w av s.heap env σ →
    (∀ s₁ s₂ I fp P St, Kp w q s s₁ → Same s₁ s₂ → Wk w A av s₁.heap ds I s₂ fp P St → Q (.ref I) s₂) →
    wpAny (model PP w.w) A (eval e env) (fun x s₁ => wpAny (model PP w.w) A (pyIter x) Q E s₁) E s

section
variable {w : Wd} {av : List Addr} {k : Nat} {q : Bool} {env : Env} {σ : Sg}

theorem It.list {e : Expr} {ds : List D} (he : Ev w av k q env σ e (.list ds)) : It w av k q env σ e ds := fun A s E Q rm n h =>
  he A s E _ rm n fun x s₁ r k₁ => by
    cases r with | @list a vs m _ ha l r =>
    have hl : s₁.heap.IsList a vs.toArray := ⟨_, l, rfl, _, rfl⟩
    have lt : a < s₁.heap.objs.size := Heap.lt_size l
    have sz : (s₁.heap.push { cls := .type "list_iterator", data := .fields #[.ref a, .int 0 0] }).objs.size = s₁.heap.objs.size + 1 := Heap.size_push ..
    have hsz : vs.toArray.size = ds.length := by rw [List.size_toArray]; exact r.length
    have W := Walks.list (prog := PP) (w := w.w) rm.hd s₁.heap.objs.size a (Nat.ne_of_lt lt) vs.toArray
    rw [hsz] at W
    refine wpAny_pyIter_list hl (h s₁ _ s₁.heap.objs.size [s₁.heap.objs.size, a] _ _ k₁ ⟨_, _, rfl⟩ ⟨W, ⟨⟨_, Heap.get?_push_size _ rfl, rfl, rfl⟩, hl.push _⟩, ?_, Heap.get?_none_of_le (Nat.le_refl _), Nat.le_refl _, fun b o e => Heap.get?_push_of_some _ e, ?_, ?_, ?_⟩)
    · intro b hb
      show b < (s₁.heap.push _).objs.size
      rw [sz]
      rcases List.mem_cons.mp hb with rfl | hb
      · exact Nat.lt_succ_self _
      · rcases List.mem_cons.mp hb with rfl | hb
        · exact Nat.lt_succ_of_lt lt
        · cases hb
    · intro i v hp
      exact r.get (by simpa using hp)
    · rintro i hh ⟨⟨o, e, hc, hd⟩, _⟩
      exact ⟨o, _, _, e, hc, by decide, hd, fun x u e => by cases e⟩
    · rintro i hh ⟨⟨o, e, hc, hd⟩, o', e', _, n', hd'⟩ b hb
      rcases List.mem_cons.mp hb with rfl | hb
      · exact ⟨(n.kp k₁).gv.new, ((n.kp k₁).gd.big (Nat.le_refl _)).1, ((n.kp k₁).gd.big (Nat.le_refl _)).2, o, e, .fields hd fun x u e => by cases e⟩
      · rcases List.mem_cons.mp hb with rfl | hb
        · have := (n.kp k₁).gd.ne l fun vs e => by cases e
          exact ⟨ha, this.1, this.2, o', e', .seq hd'⟩
        · cases hb
theorem It.tup {e : Expr} {ds : List D} (he : Ev w av k q env σ e (.tup ds)) : It w av k q env σ e ds := fun A s E Q rm n h =>
  he A s E _ rm n fun x s₁ r k₁ => by
    cases r with | @tup a vs m _ ha l r =>
    have hl : s₁.heap.IsTuple a vs.toArray := ⟨_, l, rfl, _, rfl⟩
    have lt : a < s₁.heap.objs.size := Heap.lt_size l
    have sz : (s₁.heap.push { cls := .type "tuple_iterator", data := .fields #[.ref a, .int 0 0] }).objs.size = s₁.heap.objs.size + 1 := Heap.size_push ..
    have hsz : vs.toArray.size = ds.length := by rw [List.size_toArray]; exact r.length
    have W := Walks.tuple (prog := PP) (w := w.w) rm.hd s₁.heap.objs.size a (Nat.ne_of_lt lt) vs.toArray
    rw [hsz] at W
    refine wpAny_pyIter_tuple hl (h s₁ _ s₁.heap.objs.size [s₁.heap.objs.size, a] _ _ k₁ ⟨_, _, rfl⟩ ⟨W, ⟨⟨_, Heap.get?_push_size _ rfl, rfl, rfl⟩, hl.push _⟩, ?_, Heap.get?_none_of_le (Nat.le_refl _), Nat.le_refl _, fun b o e => Heap.get?_push_of_some _ e, ?_, ?_, ?_⟩)
    · intro b hb
      show b < (s₁.heap.push _).objs.size
      rw [sz]
      rcases List.mem_cons.mp hb with rfl | hb
      · exact Nat.lt_succ_self _
      · rcases List.mem_cons.mp hb with rfl | hb
        · exact Nat.lt_succ_of_lt lt
        · cases hb
    · intro i v hp
      exact r.get (by simpa using hp)
    · rintro i hh ⟨⟨o, e, hc, hd⟩, _⟩
      exact ⟨o, _, _, e, hc, by decide, hd, fun x u e => by cases e⟩
    · rintro i hh ⟨⟨o, e, hc, hd⟩, o', e', _, n', hd'⟩ b hb
      rcases List.mem_cons.mp hb with rfl | hb
      · exact ⟨(n.kp k₁).gv.new, ((n.kp k₁).gd.big (Nat.le_refl _)).1, ((n.kp k₁).gd.big (Nat.le_refl _)).2, o, e, .fields hd fun x u e => by cases e⟩
      · rcases List.mem_cons.mp hb with rfl | hb
        · have := (n.kp k₁).gd.ne l fun vs e => by cases e
          exact ⟨ha, this.1, this.2, o', e', .seq hd'⟩
        · cases hb

noncomputable def rng (n : Nat) : List D := (List.range n).map fun (i : Nat) => D.int i
theorem It.range {e : Expr} {p pos : Pos} {n : Nat} (he : Ev w av k q env σ e (.int n)) (hn : n < 1000000) (hb : bootBuiltins (Str.ofString "range") = some (.type "range"))
    (hf : nsIn (hd.heap_39 w.params) mainGlobals (Str.ofString "range") = some none) (hk : autoParam (env.kindOf (Str.ofString "range") = some .globalImplicit) PyProof.Rows.call_M_of_MD._auto_3) (hs : autoParam (starEach [e] env = [(false, eval e env)]) PyProof.Rows.call_M_of_MD._auto_3) :
    It w av k q env σ (.Call (.Name (Str.ofString "range") p) [e] [] pos) (rng n) := fun A s E Q rm nn h => by
  refine Call_Name1 (name_boot nn hk hf hb (by decide) (PyProof.Rows.callWith_type rfl (evalArgs_plain ?_)) (by decide)) hs
  have := (Evs.cons he .nil hs) pos
  rw [hs] at this
  refine this A s E _ rm nn fun ys s₁ rs k₁ => ?_
  cases rs with | cons r rs =>
  cases rs
  cases r with | int _ t =>
  refine call_range_1 ?_
  have hsz : Builtin.Range.rangeSize 0 (n : Int) 1 = n := by rw [rangeSize_one]; split <;> omega
  refine wpAny_pyIter_range (IsRange.new ..) (small_one (by omega) (by omega) (by omega) (by omega)) ?_
  rw [hsz]
  have e1 : (s₁.heap.push { cls := .type "range", data := .fields #[.int 0 s₁.toks, .int n t, .int 1 (s₁.toks + 1)] }).objs.size = s₁.heap.objs.size + 1 := Heap.size_push ..
  refine h s₁ _ _ [_] _ _ k₁ ⟨_, _, rfl⟩ ⟨by rw [show (rng n).length = n by simp [rng]]; exact walks_bound (Walks.range (w := w.w) rm.hd _ 0 1 n), ?_, ?_, Heap.get?_none_of_le (by rw [e1]; omega), by rw [e1]; omega, fun b o e => Heap.get?_push_of_some _ (Heap.get?_push_of_some _ e), ?_, ?_, ?_⟩
  · show IsRangeIter _ _ _ _ _
    have : (0 : Int) + ((0 : Nat) : Int) * 1 = 0 := by simp
    rw [this, show (n : Int) - ((0 : Nat) : Int) = n by simp]
    exact Heap.get?_push_size _ rfl
  · intro b hb
    rcases List.mem_cons.mp hb with rfl | hb
    · exact Nat.lt_of_lt_of_eq (Nat.lt_succ_self _) (Heap.size_push ..).symm
    · cases hb
  · rintro i v ⟨hi, u, rfl⟩
    refine ⟨.int i, by simp [rng, hi], ?_⟩
    have : (0 : Int) + (i : Int) * 1 = i := by omega
    rw [this]; exact .int _ _
  · rintro i hh st
    exact ⟨_, _, _, st, rfl, by decide, rfl, fun x u e => by cases e⟩
  · rintro i hh st b hb
    have hge : s₁.heap.objs.size ≤ s₁.heap.objs.size + 1 := Nat.le_succ _
    rcases List.mem_cons.mp hb with rfl | hb
    · refine ⟨fun ha => ?_, ?_, ?_, _, st, .fields rfl fun x u e => by cases e⟩
      · have := (nn.kp k₁).gv.lt _ ha
        rw [e1] at this; exact absurd this (Nat.not_lt.mpr hge)
      · rw [e1]; exact ((nn.kp k₁).gd.big hge).1
      · rw [e1]; exact ((nn.kp k₁).gd.big hge).2
    · cases hb
end
end Mine

set_option maxRecDepth 100000
set_option maxHeartbeats 1000000
namespace Mine

/-- the tests of a comprehension -/
noncomputable def Tsts (w : Wd) (av : List Addr) (k : Nat) (env : Env) (σ : Sg) (ifs : List Expr) (b : Bool) : Prop :=
  ∀ (A : Around) (s : Shared) (E : Value → Shared → Prop) (Q : Bool → Shared → Prop), Room k A → Sees w av s.heap env σ → (∀ s', Kp w true s s' → Q b s') →
    wpAny (model PP w.w) A (forIn ifs true fun c r => if r = true then do let ok ← isTrue c env (eval c env); pure (ForInStep.yield ok) else pure (ForInStep.yield r)) Q E s
theorem Tsts.nil {w : Wd} {av : List Addr} {k : Nat} {env : Env} {σ : Sg} : Tsts w av k env σ [] true := fun A s E Q rm n h => wpAny_tests_nil (h _ .refl)
theorem Tsts.one {w : Wd} {av : List Addr} {k : Nat} {env : Env} {σ : Sg} {c : Expr} {b : Bool} (ht : Tr w av k true env σ c b) : Tsts w av k env σ [c] b := fun A s E Q rm n h => wpAny_tests_one (ht A s E Q rm n h)

end Mine

set_option maxRecDepth 100000
set_option maxHeartbeats 1000000
namespace Mine

/-- an iterator under a for: its objects are wr, new over h₁ -/
structure Lp (w : Wd) (A : Around) (av : List Addr) (h₁ : Heap) (ds : List D) (target : Expr) (J : Addr) (wr : List Addr) (s₂ : Shared) (St : Nat → Heap → Prop) (Md : Nat → Value → Heap → Prop) : Prop where
  st : St 0 s₂.heap
  old : ∀ b o, h₁.get? b = some o → s₂.heap.get? b = some o
  new : ∀ b ∈ wr, h₁.get? b = none ∧ b ∉ av
  ge : h₁.objs.size ≤ s₂.heap.objs.size
  frame : ∀ X i h h', (∀ b ∈ X, s₂.heap.objs.size ≤ b) → St i h → Kf (X ++ av) h h' → St i h'
  pl : ∀ i h, St i h → ∀ b ∈ wr, ∃ o, h.get? b = some o ∧ Pl o ∧ ∀ it n, o.data ≠ .seq it n
  plM : ∀ i v h, Md i v h → ∀ b ∈ wr, ∃ o, h.get? b = some o ∧ Pl o ∧ ∀ it n, o.data ≠ .seq it n
  next : ∀ X i d (s : Shared) (Q : Option Value → Shared → Prop) (E : Value → Shared → Prop), (∀ b ∈ X, s₂.heap.objs.size ≤ b ∧ b < s.heap.objs.size) → (∀ b ∈ av, b < s.heap.objs.size) → ds[i]? = some d → St i s.heap → SeqKeep (X ++ av) h₁ s.heap → Gd w h₁ →
    (∀ v s', Same s s' → (∀ b o, b ∉ wr → s.heap.get? b = some o → s'.heap.get? b = some o) → Rep (X ++ av) s'.heap v d → Md i v s'.heap → Q (some v) s') → wpAny (model PP w.w) A (pyNext (.ref J)) Q E s
  go : ∀ av' i v d (s : Shared) (Q : Unit → Shared → Prop) (E : Value → Shared → Prop), Md i v s.heap → Rep av' s.heap v d →
    (∀ s', Same s s' → (∀ b o, b ∉ wr → s.heap.get? b = some o → s'.heap.get? b = some o) → Rep av' s'.heap v d → St (i + 1) s'.heap → Q () s') → wpAny (model PP w.w) A (letOwnedTupleGo target (.ref J) v) Q E s
  done : ∀ (s : Shared) (Q : Option Value → Shared → Prop) (E : Value → Shared → Prop), St ds.length s.heap →
    (∀ s', Same s s' → (∀ b o, b ∉ wr → s.heap.get? b = some o → s'.heap.get? b = some o) → Q none s') → wpAny (model PP w.w) A (pyNext (.ref J)) Q E s

  self : ∀ (s : Shared) (Q : Value → Shared → Prop) (E : Value → Shared → Prop), St 0 s.heap → Q (.ref J) s → wpAny (model PP w.w) A (pyIter (.ref J)) Q E s

theorem Rep.moreX {av : List Addr} {h : Heap} {v : Value} {d : D} : ∀ {X : List Addr}, (∀ b ∈ X, h.get? b = Option.none) → Rep av h v d → Rep (X ++ av) h v d
  | [], _, r => r
  | b :: X, hX, r => (Rep.moreX (fun c hc => hX c (.tail _ hc)) r).more (hX b (.head _))

noncomputable def Lps (w : Wd) (av : List Addr) (k : Nat) (q : Bool) (env : Env) (σ : Sg) (target e : Expr) (ds : List D) : Prop :=
  ∀ (A : Around) (s : Shared) (E : Value → Shared → Prop) (Q : Value → Shared → Prop), Room k A → Sees w av s.heap env σ →
    (∀ s₁ s₂ J wr St Md, Kp w q s s₁ → Same s₁ s₂ → Lp w A av s₁.heap ds target J wr s₂ St Md → Q (.ref J) s₂) →
    wpAny (model PP w.w) A (eval e env) (fun x s₁ => wpAny (model PP w.w) A (pyIter x) Q E s₁) E s

theorem go_plain {w : Wd} {A : Around} {s : Shared} {E : Value → Shared → Prop} {target : Expr} {J : Addr} {v : Value} {o : Obj} {T : String} {vs : Array Value} {Q : Unit → Shared → Prop} (ho : s.heap.get? J = some o) (hc : o.cls = .type T) (hT : special.contains T = false) (hd : o.data = .fields vs) (hQ : Q () s) :
    wpAny (model PP w.w) A (letOwnedTupleGo target (.ref J) v) Q E s := by
  have main : ∀ a : Addr, wpAny (model PP w.w) A (do
      let o ← load J
      match o.cls, o.data with
      | .type n, .fields vs =>
        if ["enumerate", "zip", "dict_itemiterator", "dict_reverseitemiterator", "odict_iterator", "itertools.zip_longest", "itertools.pairwise"].contains n && vs[0]? == some (rawInt a) then
          rule "for.unpacks-the-owned-tuple"
          updateField J 0 .none
      | _, _ => pure () : Sem Unit) Q E s := fun a => by
    refine wpAny_bind (wpAny_load ho ?_)
    rw [hc, hd]
    show wpAny _ A (if (special.contains T && vs[0]? == some (rawInt a)) = true then _ else _) Q E s
    rw [hT, Bool.false_and, if_neg Bool.false_ne_true]
    exact wpAny_pure hQ
  unfold letOwnedTupleGo
  split
  · cases v <;> first | exact main _ | exact wpAny_pure hQ
  · cases v <;> first | exact main _ | exact wpAny_pure hQ
  · exact wpAny_pure hQ

section
variable {w : Wd} {av : List Addr} {k : Nat} {q : Bool} {env : Env} {σ : Sg}

theorem Lps.of {target e : Expr} {ds : List D} (h : It w av k q env σ e ds) : Lps w av k q env σ target e ds := fun A s E Q rm n hQ =>
  h A s E Q rm n fun s₁ s₂ I fp P St k₁ sm wk => by
    have n₁ := n.kp k₁
    have plI : ∀ i h, St i h → ∀ b ∈ [I], ∃ o, h.get? b = some o ∧ Pl o ∧ ∀ it n, o.data ≠ .seq it n := fun i h st b hb => by
      rcases List.mem_cons.mp hb with rfl | hb
      · obtain ⟨o, T, vs, e, _, _, hd, hx⟩ := wk.obj i h st
        exact ⟨o, e, .fields hd hx, fun it n hq => by rw [hd] at hq; cases hq⟩
      · cases hb
    refine hQ s₁ s₂ I [I] St (fun i v h => St (i + 1) h) k₁ sm ⟨wk.st, wk.old, fun b hb => ?_, ?_, fun X i h h' hX st kf => ?_, plI, fun i v h st => plI _ h st, ?_, ?_, ?_, ?_⟩
    · rcases List.mem_cons.mp hb with rfl | hb
      · exact ⟨wk.new, fun ha => absurd (n₁.gv.lt _ ha) (Nat.not_lt.mpr wk.ge)⟩
      · cases hb
    · obtain ⟨o, _, _, e, _⟩ := wk.obj 0 _ wk.st
      exact Nat.le_trans wk.ge (Nat.le_of_lt (Heap.lt_size e))
    · exact wk.W.frame i h h' st fun b hb o e => by
        obtain ⟨h1, h2, h3, o', e', hp⟩ := wk.ok i h st b hb
        rw [e] at e'; cases e'
        exact kf b o e hp h2 h3 fun hm => (List.mem_append.mp hm).elim (fun hm => absurd (wk.lt b hb) (Nat.not_lt.mpr (hX b hm))) h1
    · intro X i d s Q E hX hav hd st sk g hq
      refine wk.W.item i s Q E (List.getElem?_eq_some_iff.mp hd).1 st fun v h' tk hP st' hk => ?_
      obtain ⟨d', hd', rv⟩ := wk.item i v hP
      rw [hd] at hd'; cases hd'
      have rv' : Rep (X ++ av) s₁.heap v d := rv.moreX fun b hb => Heap.get?_none_of_le (Nat.le_trans (Nat.le_trans wk.ge (by
        obtain ⟨o, _, _, e, _⟩ := wk.obj 0 _ wk.st
        exact Nat.le_of_lt (Heap.lt_size e))) (hX b hb).1)
      refine hq v _ ⟨_, _, rfl⟩ hk (rv'.mono fun a o it n ha e hdd => hk a o (fun hb => ?_) (sk a o it n ha e hdd)) st'
      rcases List.mem_cons.mp hb with rfl | hb
      · rw [wk.new] at e; cases e
      · cases hb
    · intro av' i v d s Q E st rv hq
      obtain ⟨o, T, vs, e, hc, hT, hd, hx⟩ := wk.obj _ _ st
      exact go_plain e hc hT hd (hq s .refl (fun _ _ _ e => e) rv st)
    · intro s Q E st hq
      exact wk.W.done s Q E st fun h' tk hk => hq _ ⟨_, _, rfl⟩ hk
    · intro s Q E st hq
      exact wk.W.self 0 s Q E st hq

variable {h₀ : Heap} {ω : Om} {R : Flow → Heap → Prop} {rest : List Stmt}

/-- only the iterator's own objects have changed -/
theorem Fs.bump {h h' : Heap} {wr : List Addr} (F : Fs w av q h₀ env σ ω h) (hw : ∀ b ∈ wr, h₀.get? b = none ∧ b ∉ av ∧ ∃ o, h.get? b = some o ∧ Pl o ∧ ∀ it n, o.data ≠ .seq it n) (hk : ∀ b o, b ∉ wr → h.get? b = some o → h'.get? b = some o) : Fs w av q h₀ env σ ω h' := by
  have old : ∀ b o, h₀.get? b = some o → b ∉ wr := fun b o e hb => by rw [(hw b hb).1] at e; cases e
  have dict : ∀ {L : Addr} {m : Str → Option Value}, h.Ns L m → h'.Ns L m := fun {L m} hn => by
    obtain ⟨o, es, ep, e, hd, r⟩ := hn
    exact ⟨o, es, ep, hk _ _ (fun hb => by
      obtain ⟨_, _, o', e', hp, _⟩ := hw _ hb
      rw [e] at e'; cases e'; exact hp.1 _ _ hd) e, hd, r⟩
  have cell : ∀ {c : Addr} {v : Option Value}, h.IsCell c v → h'.IsCell c v := fun {c v} hc => by
    obtain ⟨o, e, hd⟩ := hc
    exact ⟨o, hk _ _ (fun hb => by
      obtain ⟨_, _, o', e', hp, _⟩ := hw _ hb
      rw [e] at e'; cases e'; exact hp.2.1 _ hd) e, hd⟩
  have vr : ∀ {y : Str} {u : Value}, Var h env y u → Var h' env y u := fun {y u} V => ⟨V.1, by
    rcases V.2 with ⟨a, m, b, c⟩ | ⟨a, c, b, d⟩ | ⟨a, a', c, b, d⟩
    · exact .inl ⟨a, m, dict b, c⟩
    · exact .inr (.inl ⟨a, c, b, cell d⟩)
    · exact .inr (.inr ⟨a, a', c, b, cell d⟩)⟩
  have sk : ∀ {av : List Addr}, SeqKeep av h h' := fun {av} a o it n _ e hd => hk a o (fun hb => by
    obtain ⟨_, _, o', e', _, hp⟩ := hw _ hb
    rw [e] at e'; cases e'; exact hp _ _ hd) e
  have tab : ∀ {P l c : Nat} {qq : Str}, (∃ o, h₀.get? P = some o) → TabOk h P l c qq → TabOk h' P l c qq := fun {P l c qq} hP t => by
    have hne : P ∉ wr := let ⟨o, e⟩ := hP; old P o e
    rcases t with t | ⟨c', t, ⟨c2, o, vs, u, e, e1, e2, e3⟩⟩
    · exact .inl (hk _ _ hne t)
    · refine .inr ⟨c', hk _ _ hne t, c2, o, vs, u, e, hk _ _ (fun hb => ?_) e1, e2, e3⟩
      obtain ⟨_, _, o', e', hp, _⟩ := hw _ hb
      rw [e1] at e'; cases e'; exact hp.2.2 _ _ _ e2 e3
  have lt : ∀ {P l c : Nat} {qq : Str}, TabOk h₀ P l c qq → ∃ o, h₀.get? P = some o := fun {P l c qq} t => by obtain ⟨ps, e, _⟩ := t.fields; exact ⟨_, e⟩
  have g := F.sees.gd
  have g' : Gd w h' := by
    refine ⟨fun a o e => ⟨(g.kx a o e).1, (g.kx a o e).2.1, hk _ _ (old _ _ (F.g0.kx a o e).2.2) (g.kx a o e).2.2⟩, fun a o e => hk _ _ (old _ _ (F.g0.X a o e)) (g.X a o e), ?_, ?_, ?_, ?_, tab (lt F.g0.t1) g.t1, tab (lt F.g0.t2) g.t2⟩
    · obtain ⟨m, n⟩ := g.g; exact ⟨m, dict n⟩
    · obtain ⟨m, n, r⟩ := g.ns; exact ⟨m, dict n, r⟩
    · obtain ⟨m, n, r⟩ := g.lim; exact ⟨m, dict n, r⟩
    · obtain ⟨ob, e, r⟩ := g.bm; obtain ⟨ob', e', _⟩ := F.g0.bm; exact ⟨ob, hk _ _ (old _ _ e') e, r⟩
  refine ⟨⟨F.sees.kind, F.sees.glob, F.sees.blt, ⟨g', fun a ha => ?_, F.sees.gv.kn⟩, fun y d e => ?_⟩, F.g0, ⟨fun b o hb e => hk _ _ (old _ _ e) (F.ext.keep b o hb e), fun _ => g'⟩, ?_, F.fresh, fun n c a b h1 => ?_, F.apart, ?_⟩
  · obtain ⟨h1, o, e, hp⟩ := F.sees.gv.own a ha
    exact ⟨h1, o, hk _ _ (fun hb => (hw a hb).2.1 ha) e, hp⟩
  · obtain ⟨v, V, r⟩ := F.sees.var y d e
    exact ⟨v, vr V, r.mono sk⟩
  · obtain ⟨m, n⟩ := F.ns; exact ⟨m, dict n⟩
  · obtain ⟨v, h2⟩ := F.cel n c a b h1; exact ⟨v, cell h2⟩
  · have := F.own
    cases ω with
    | none => trivial
    | some p =>
      obtain ⟨x, a, ds⟩ := p
      obtain ⟨h1, h2, h3, vs, n, l, r⟩ := this
      exact ⟨h1, h2, vr h3, vs, n, hk _ _ (fun hb => (hw a hb).2.1 h1) l, r.mono sk⟩

/-- the target of a for -/
noncomputable def Tgt (w : Wd) (av : List Addr) (k : Nat) (q : Bool) (h₀ : Heap) (env : Env) (target : Expr) (d : D) (f : Sg → Sg) (ω : Om) : Prop :=
  ∀ (A : Around) (s : Shared) (E : Value → Shared → Prop) (Q : Unit → Shared → Prop) (v : Value) (σ : Sg), Room k A → Fs w av q h₀ env σ ω s.heap → Rep av s.heap v d →
    (∀ s', Mv [] s s' → Fs w av q h₀ env (f σ) ω s'.heap → Q () s') → wpAny (model PP w.w) A (assign target env v) Q E s
theorem Tgt.name {x : Str} {p : Pos} {d : D} (hx : Sto h₀ env x) (hω : ω.not x) : Tgt w av k q h₀ env (.Name x p) d (fun σ => σ.set x d) ω := fun A s E Q v σ rm F r h => wpAny_assign_Name (F.set hx hω r h)
theorem Tgt.tup {elts : List Expr} {kk : Nat} {tp : Pos} {xs : List Str} {ds : List D} (hx : Stores h₀ env ((assignEach elts env).map (·.2)) xs) (hω : ∀ x ∈ xs, ω.not x) (hl : ds.length = xs.length) (he : autoParam ((assignEach elts env).length = xs.length) PyProof.Rows.call_M_of_MD._auto_3) (hst : autoParam ((assignEach elts env).findIdx? (·.1) = none) PyProof.Rows.call_M_of_MD._auto_3) :
    Tgt w av k q h₀ env (.Tuple elts kk tp) (.tup ds) (fun σ => σ.sets xs ds) ω := fun A s E Q v σ rm F r h => F.unpack rm r hx hω hl he hst h

theorem Ex.forW {target iter : Expr} {body els : List Stmt} {pos : Pos} {ds : List D} (f : D → Sg → Sg) (I : Nat → Sg → Om → Prop) (Bk : Heap → Prop) (hit : Lps w av k q env σ target iter ds) (h0 : I 0 σ ω)
    (htg : ∀ i d σ' ω', ds[i]? = some d → I i σ' ω' → Tgt w av k q h₀ env target d (f d) ω')
    (turn : ∀ i d σ' ω', ds[i]? = some d → I i σ' ω' → Ex w k q h₀ env av (f d σ') ω' body (fun fl hp => match fl with
      | .next | .cont => ∃ σ'' ω'', I (i + 1) σ'' ω'' ∧ Fs w av q h₀ env σ'' ω'' hp
      | .brk => Bk hp
      | .ret v => R (.ret v) hp))
    (fin : ∀ σ' ω', I ds.length σ' ω' → Ex w k q h₀ env av σ' ω' els (Nx w k q h₀ env av rest R))
    (hbk : ∀ hp, Bk hp → Nx w k q h₀ env av rest R .next hp)
    (hs : autoParam (∀ x, foldedSetIterable iter env x = pure x) PyProof.Rows.Assign_ListComp_rowsP._auto_1) : Ex w k q h₀ env av σ ω (.For target iter body els pos :: rest) R := fun A s E Q rm F hQ => by
  refine wpAny_execs_cons (wpAny_For (hit A s E _ rm F.sees fun s₁ s₂ J wr St Md k₁ sm lp => ?_) hs)
  have F₁ := F.extend k₁.ext
  have g₁ := F₁.sees.gd
  have hL : h₀.objs.size ≤ s₁.heap.objs.size := by obtain ⟨m, n⟩ := F₁.ns; exact Nat.le_trans F₁.fresh (Nat.le_of_lt n.lt)
  have F₂ : Fs w av q h₀ env σ ω s₂.heap := F₁.extend (.of lp.old)
  have noB : ∀ b, s₁.heap.get? b = none → h₀.get? b = none := fun b hb => by
    cases e : h₀.get? b with
    | none => rfl
    | some o =>
      have h30 : b ≠ 30 := fun e' => by obtain ⟨ps, e2, _⟩ := g₁.t1.fields; rw [e', e2] at hb; cases hb
      have h37 : b ≠ 37 := fun e' => by obtain ⟨ps, e2, _⟩ := g₁.t2.fields; rw [e', e2] at hb; cases hb
      rw [F₁.ext.keep b o (.inr ⟨h30, h37⟩) e] at hb; cases hb
  have wrOk : ∀ {h : Heap}, (∀ b ∈ wr, ∃ o, h.get? b = some o ∧ Pl o ∧ ∀ it n, o.data ≠ .seq it n) → ∀ b ∈ wr, h₀.get? b = none ∧ b ∉ av ∧ ∃ o, h.get? b = some o ∧ Pl o ∧ ∀ it n, o.data ≠ .seq it n := fun {h} hp b hb => ⟨noB b (lp.new b hb).1, (lp.new b hb).2, hp b hb⟩
  have notwr : ∀ b o, s₁.heap.get? b = some o → b ∉ wr := fun b o e hb => by rw [(lp.new b hb).1] at e; cases e
  have sm0 : Same s s₂ := k₁.same.trans sm
  refine codeAny_forLoop_any (fun n s' => ∃ i σ' ω', n = ds.length - i ∧ i ≤ ds.length ∧ Same s s' ∧ Kf av s₁.heap s'.heap ∧ I i σ' ω' ∧ St i s'.heap ∧ Fs w av q h₀ env σ' ω' s'.heap) ?_ (ds.length - 0) ⟨0, σ, ω, rfl, Nat.zero_le _, sm0, fun b o e _ _ _ _ => lp.old b o e, h0, lp.st, F₂⟩
  rintro n s' ⟨i, σ', ω', rfl, hi, smi, kf, hI, st, Fi⟩
  have sk : SeqKeep av s₁.heap s'.heap := fun a o it n ha e hd => kf a o e (.seq hd) (g₁.ne e fun vs hq => by rw [hd] at hq; cases hq).1 (g₁.ne e fun vs hq => by rw [hd] at hq; cases hq).2 ha
  rcases Nat.lt_or_ge i ds.length with hlt | hge
  · have hd : ds[i]? = some ds[i] := by simp [hlt]
    refine lp.next [] i ds[i] s' _ _ (fun _ h => by cases h) (fun b hb => Fi.sees.gv.lt b hb) hd st sk g₁ fun v s₃ sm₃ k₃ rv md => ?_
    have F₃ := Fi.bump (wrOk (lp.pl i _ st)) k₃
    have kf₃ : Kf av s₁.heap s₃.heap := fun b o e p h1 h2 h3 => k₃ b o (notwr b o e) (kf b o e p h1 h2 h3)
    refine lp.go av i v ds[i] s₃ _ _ md rv fun s₄ sm₄ k₄ rv₄ st₄ => ?_
    have F₄ := F₃.bump (wrOk (lp.plM i v _ md)) k₄
    have kf₄ : Kf av s₁.heap s₄.heap := fun b o e p h1 h2 h3 => k₄ b o (notwr b o e) (kf₃ b o e p h1 h2 h3)
    refine htg i ds[i] σ' ω' hd hI A s₄ _ _ v σ' rm F₄ rv₄ fun s₅ mv₅' F₅ => ?_
    have mv₅ : Mv av s₄ s₅ := mv₅'.weak
    refine turn i ds[i] σ' ω' hd hI A s₅ _ _ rm F₅ fun fl s₆ mv₆ hr => ?_
    have sm₆ : Same s s₆ := (((smi.trans sm₃).trans sm₄).trans mv₅.1).trans mv₆.1
    have kf₆ : Kf av s₁.heap s₆.heap := (kf₄.trans mv₅.2).trans mv₆.2
    have mv : Mv av s s₆ := ⟨sm₆, Kf.trans k₁.ext.kf kf₆⟩
    cases fl with
    | next => obtain ⟨σ'', ω'', hI', F₆⟩ := hr; exact ⟨ds.length - (i + 1), by omega, i + 1, σ'', ω'', rfl, hlt, sm₆, kf₆, hI', lp.frame [] _ _ _ (fun _ h => by cases h) st₄ (mv₅.2.trans mv₆.2), F₆⟩
    | cont => obtain ⟨σ'', ω'', hI', F₆⟩ := hr; exact ⟨ds.length - (i + 1), by omega, i + 1, σ'', ω'', rfl, hlt, sm₆, kf₆, hI', lp.frame [] _ _ _ (fun _ h => by cases h) st₄ (mv₅.2.trans mv₆.2), F₆⟩
    | brk => exact Nx.run (f := .next) rm mv (hbk _ hr) hQ
    | ret v => exact hQ _ _ mv hr
  · have hie : i = ds.length := Nat.le_antisymm hi hge
    subst hie
    refine lp.done s' _ _ st fun s₃ sm₃ k₃ => ?_
    have F₃ := Fi.bump (wrOk (lp.pl _ _ st)) k₃
    have kf₃ : Kf av s₁.heap s₃.heap := fun b o e p h1 h2 h3 => k₃ b o (notwr b o e) (kf b o e p h1 h2 h3)
    refine fin σ' ω' hI A s₃ _ _ rm F₃ fun fl s₄ mv₄ hr => ?_
    have mv : Mv av s s₄ := ⟨(smi.trans sm₃).trans mv₄.1, Kf.trans k₁.ext.kf (kf₃.trans mv₄.2)⟩
    cases fl with
    | next => exact Nx.run (f := .next) rm mv hr hQ
    | brk => exact hQ _ _ mv hr
    | cont => exact hQ _ _ mv hr
    | ret v => exact hQ _ _ mv hr
end
end Mine

set_option maxRecDepth 100000
set_option maxHeartbeats 1000000
namespace Mine

noncomputable def ownC (own : Option Str) (N : Addr) : List (Str × Addr) := match own with | none => [] | some x => [(x, N)]
noncomputable def cEnv (scope : Scope) (own : Option Str) (cl : List (Str × Addr)) (C : Addr) (env : Env) : Env :=
  { scope := relabel scope env, locals := C, globals := env.globals, cells := ownC own (C + 1) ++ cl, qual := env.qual, func := none, code := env.code, frame := env.frame, builtins := env.builtins }
noncomputable def ownH (own : Option Str) (h : Heap) : Heap := match own with | none => h | some _ => h.push { cls := .type "cell", data := .cell none }

section
variable {w : Wd} {A : Around} {E : Value → Shared → Prop} {s : Shared} {env : Env}

theorem newEnv_around {scope : Scope} {cl : List (Str × Addr)} {own : Option Str} {Q : Env → Shared → Prop} (hcs : ∀ N, cellsFrom N scope.names cl = ownC own N ++ cl) (hph : ∀ h, pushCells h scope.names = ownH own h)
    (h : ∀ cenv, { cenv with scope := relabel scope env } = cEnv scope own cl s.heap.objs.size env → cenv.locals = s.heap.objs.size → Q cenv { s with heap := ownH own (s.heap.push { cls := .type "dict", data := .dict #[] }) }) :
    wpAny (model PP w.w) A (newFunctionEnv scope env.globals cl [] env.qual none .none (some env)) Q E s := by
  simp only [newFunctionEnv, Option.isSome_some, if_true]
  refine wpAny_bind (wpAny_alloc ?_)
  refine wpAny_bind (wpAny_layCells _ (fun name kind cells => by cases hkc : kind == NameKind.cell <;> simp [hkc]) _ _ _ _ ?_)
  rw [show ({ s with heap := s.heap.push { cls := .type "dict", data := .dict #[] } } : Shared).heap.objs.size = s.heap.objs.size + 1 from Heap.size_push .., hcs, hph]
  simp only [List.forIn_nil]
  exact wpAny_bind (wpAny_pure (wpAny_pure (h _ rfl rfl)))

theorem compLoop_go {R : Result → Shared → Prop} {elt target iter : Expr} {ifs : List Expr} {scope : Scope} {pos : Pos} {it acc : Value} (I : Nat → Shared → Prop)
    (turn : ∀ n s, I n s → wpAny (model PP w.w) A (pyNext it) (fun r s₁ => match r with
      | none => R (.ok .next) s₁
      | some v => wpAny (model PP w.w) A (letOwnedTupleGo target it v) (fun _ s₁' => wpAny (model PP w.w) A (assign target env v) (fun _ s₂ =>
          wpAny (model PP w.w) A (forIn ifs true fun c r => if r = true then do let ok ← isTrue c env (eval c env); pure (ForInStep.yield ok) else pure (ForInStep.yield r)) (fun ok s₃ =>
            if ok = true then wpAny (model PP w.w) A (eval elt env) (fun x s₄ =>
              wpAny (model PP w.w) A (call (.builtin "list.append") [acc, x]) (fun _ s₅ => ∃ m, m < n ∧ I m s₅) (notedBy (model PP w.w) A env fun e s' => R (.error e) s') s₄) (notedBy (model PP w.w) A env fun e s' => R (.error e) s') s₃
            else ∃ m, m < n ∧ I m s₃) (notedBy (model PP w.w) A env fun e s' => R (.error e) s') s₂) (notedBy (model PP w.w) A env fun e s' => R (.error e) s') s₁') (notedBy (model PP w.w) A env fun e s' => R (.error e) s') s₁) (notedBy (model PP w.w) A env fun e s' => R (.error e) s') s)
    (n : Nat) (h : I n s) : codeAny (model PP w.w) A (.compLoop (.ListComp elt [⟨target, iter, ifs, 0⟩] scope pos) 0 it acc env) R s := by
  refine codeAny_loop rfl I (fun n s hI => ?_) n h
  show wpAny _ A ((compTurn (.ListComp elt [⟨target, iter, ifs, 0⟩] scope pos) 0 it acc env).onRaise (fun x => do noteFrame x env; theTreesLotGoes x)) _ _ s
  refine wpAny_noted ?_
  rw [compTurn_list]
  refine wpAny_bind (wpAny_standAt (wpAny_bind (wpAny_mono (turn n s hI) (fun r s₁ h₁ => ?_) fun _ _ h' => h')))
  cases r with
  | none => exact wpAny_pure h₁
  | some v =>
    refine wpAny_bind (wpAny_mono h₁ (fun _ s₂ h₂ => ?_) fun _ _ h' => h')
    refine wpAny_bind (wpAny_mono h₂ (fun _ s₃ h₃ => ?_) fun _ _ h' => h')
    refine wpAny_bind (wpAny_mono h₃ (fun ok s₄ h₄ => ?_) fun _ _ h' => h')
    cases ok with
    | true =>
      rw [if_pos rfl] at h₄ ⊢
      refine wpAny_bind (wpAny_bind (wpAny_mono h₄ (fun x s₅ h₅ => wpAny_bind (wpAny_mono h₅ (fun _ s₆ h₆ => wpAny_pure ?_) fun _ _ h' => h')) fun _ _ h' => h'))
      exact wpAny_pure ⟨rfl, h₆⟩
    | false =>
      rw [if_neg Bool.false_ne_true] at h₄ ⊢
      exact wpAny_pure ⟨rfl, h₄⟩
end

section
variable {w : Wd} {av : List Addr} {k : Nat} {q : Bool} {env : Env} {σ : Sg} {h₀ : Heap}

theorem Fs.upd {h h' : Heap} {a : Addr} {vs vs' : List Value} {n n' : Nat} (F : Fs w av q h₀ env σ none h) (ha : a ∈ av) (h0 : h₀.objs.size ≤ a) (l : IsL h a vs.toArray n) (l' : IsL h' a vs'.toArray n') (hs' : Heap.SameBut a h h') : Fs w av q h₀ env σ none h' := by
  have nd : ∀ o, h.get? a = some o → Pl o := fun o e => by rw [l] at e; cases e; exact .seq rfl
  have sk : SeqKeep av h h' := fun b o it m hb e hd => (hs'.2 b fun e' => hb (e' ▸ ha)).trans e
  have ns' : ∀ {L : Addr} {m : Str → Option Value}, h.Ns L m → h'.Ns L m := fun {L m} hn => hn.sameBut hs' fun e => by
    obtain ⟨o, es, ep, e', hd, _⟩ := hn
    rw [e] at e'; exact (nd o e').1 _ _ hd
  have cl' : ∀ {c : Addr} {v : Option Value}, h.IsCell c v → h'.IsCell c v := fun {c v} hc => hc.sameBut hs' fun e => by
    obtain ⟨o, e', hd⟩ := hc
    rw [e] at e'; exact (nd o e').2.1 _ hd
  have vr' : ∀ {y : Str} {u : Value}, Var h env y u → Var h' env y u := fun {y u} V => ⟨V.1, by
    rcases V.2 with ⟨a, m, b, c⟩ | ⟨a, c, b, d⟩ | ⟨a, a', c, b, d⟩
    · exact .inl ⟨a, m, ns' b, c⟩
    · exact .inr (.inl ⟨a, c, b, cl' d⟩)
    · exact .inr (.inr ⟨a, a', c, b, cl' d⟩)⟩
  have hnf : ∀ o vs, h.get? a = some o → o.data ≠ .fields vs := fun o vs e hd => by rw [l] at e; cases e; cases hd
  have g' : Gd w h' := F.sees.gd.but F.g0 h0 hs' hnf
  exact
    { sees := ⟨F.sees.kind, F.sees.glob, F.sees.blt, ⟨g', fun b hb => by
        obtain ⟨q1, o, e, hp⟩ := F.sees.gv.own b hb
        by_cases hba : b = a
        · subst hba; exact ⟨q1, _, l', .seq rfl⟩
        · exact ⟨q1, o, (hs'.2 b hba).trans e, hp⟩, F.sees.gv.kn⟩, fun y d e => by
        obtain ⟨v, V, r⟩ := F.sees.var y d e
        exact ⟨v, vr' V, r.mono sk⟩⟩
      g0 := F.g0
      ext := F.ext.but F.g0 h0 hs' hnf
      ns := let ⟨m, hm⟩ := F.ns; ⟨m, ns' hm⟩
      fresh := F.fresh
      cel := fun n c a b h1 => let ⟨v, h2⟩ := F.cel n c a b h1; ⟨v, cl' h2⟩
      apart := F.apart
      own := trivial }

theorem Fs.less {h : Heap} {σ' : Sg} (F : Fs w av q h₀ env σ none h) (hσ : ∀ y d, σ' y = some d → σ y = some d) : Fs w av q h₀ env σ' none h :=
  { F with sees := { F.sees with var := fun y d e => F.sees.var y d (hσ y d e) } }

noncomputable def σr (σ : Sg) (caps : List Str) : Sg := fun y => if y ∈ caps then σ y else none

/-- the names that a comprehension takes from around it -/
noncomputable def Cap' (env : Env) (scope : Scope) (own : Option Str) (cl : List (Str × Addr)) (y : Str) : Prop :=
  ∃ c, (∀ C, (cEnv scope own cl C env).cells.lookup y = some c) ∧ env.cells.lookup y = some c ∧ ((env.kindOf y = some .cell ∧ ∀ C, (cEnv scope own cl C env).kindOf y = some .cell) ∨ (env.kindOf y = some .free ∧ ∀ C, (cEnv scope own cl C env).kindOf y = some .free))

theorem comp_coreR {A : Around} {E : Value → Shared → Prop} {elt target iter : Expr} {pos : Pos} {ifs : List Expr} {scope : Scope} {own : Option Str} {cl : List (Str × Addr)} {caps : List Str} {ds : List D} {p : D → Bool} {f : D → D} (tf : D → Sg → Sg)
    {hB : Heap} {s₂ : Shared} {J : Addr} {wr : List Addr} {St : Nat → Heap → Prop} {Md : Nat → Value → Heap → Prop} {RR : Value → Addr → Result → Shared → Prop} (rm : Room k A) (n₂ : Sees w av s₂.heap env σ) (gB : Gd w hB) (lp : Lp w A av hB ds target J wr s₂ St Md) (hav : ∀ a ∈ av, a < hB.objs.size)
    (hcs : ∀ N, cellsFrom N scope.names cl = ownC own N ++ cl) (hph : ∀ h, pushCells h scope.names = ownH own h) (hcap : ∀ y ∈ caps, Cap' env scope own cl y)
    (capLt : ∀ y ∈ caps, ∀ c, env.cells.lookup y = some c → c < hB.objs.size)
    (hk1 : ∀ r ∈ (relabel scope env).names, r.2 = .cell → own = some r.1 ∨ r.1 ∈ caps) (hk2 : ∀ r ∈ (relabel scope env).names, r.2 = .free → r.1 ∈ caps)
    (htg : ∀ av' h₀ C d, d ∈ ds → h₀.objs.size ≤ C → Tgt w av' k true h₀ (cEnv scope own cl C env) target d (tf d) none)
    (htf : ∀ d y, y ∈ caps → tf d (σr σ caps) y = σ y)
    (ht : ∀ av' C d, d ∈ ds → Tsts w av' k (cEnv scope own cl C env) (tf d (σr σ caps)) ifs (p d)) (he : ∀ av' C d, d ∈ ds → p d = true → Ev w av' k true (cEnv scope own cl C env) (tf d (σr σ caps)) elt (f d)) (hz : ds.length ≤ sizeLine)
    (hkind : scope.kind = .function)
    (hR : ∀ D C s₆ vs m, Same s₂ s₆ → Ext w true hB s₆.heap → D ∉ av → IsL s₆.heap D vs.toArray m → Reps (D :: av) s₆.heap vs ((ds.filter p).map f) → (∃ mm, s₆.heap.Ns C mm) → hB.objs.size ≤ C → RR (.ref D) C (.ok .next) s₆) :
    wpAny (model PP w.w) A (newList []) (fun acc s₃ => wpAny (model PP w.w) A (newFunctionEnv scope env.globals cl [] env.qual none .none (some env)) (fun cenv s₄ =>
      codeAny (model PP w.w) A (.compStart (.ListComp elt [⟨target, iter, ifs, 0⟩] scope pos) 0 (.ref J) acc { cenv with scope := relabel scope env }) (RR acc cenv.locals) s₄) E s₃) E s₂ := by
  refine wpAny_newObj_type ?_ (by size_fits)
  refine newEnv_around hcs hph fun cenv hce hcl' => ?_
  have eD : (s₂.heap.push { cls := .type "list", dict := none, data := .seq ([] : List Value).toArray }).objs.size = s₂.heap.objs.size + 1 := Heap.size_push ..
  rw [hce, hcl']
  dsimp only
  rw [eD]
  generalize hDe : s₂.heap.objs.size = D
  generalize hH4 : ownH own ((s₂.heap.push { cls := .type "list", dict := none, data := .seq ([] : List Value).toArray }).push { cls := .type "dict", data := .dict #[] }) = H4
  have hD1 : hB.objs.size ≤ D := hDe ▸ lp.ge
  have pushO : ∀ {h : Heap} {b : Addr} {o : Obj}, h.get? b = some o → (ownH own h).get? b = some o := fun {h b o} e => by
    cases own with
    | none => exact e
    | some x => exact Heap.get?_push_of_some _ e
  have up24 : ∀ b o, s₂.heap.get? b = some o → H4.get? b = some o := fun b o e => hH4 ▸ pushO (Heap.get?_push_of_some _ (Heap.get?_push_of_some _ e))
  have up14 : ∀ b o, hB.get? b = some o → H4.get? b = some o := fun b o e => up24 b o (lp.old b o e)
  have n₂D : s₂.heap.get? D = none := hDe ▸ Heap.get?_none_of_le (Nat.le_refl _)
  have x24 : Ext w true s₂.heap H4 := .of up24
  have lD : IsL H4 D ([] : List Value).toArray 0 := by
    rw [← hH4, ← hDe]; exact pushO (Heap.get?_push_of_some _ (Heap.get?_push_size _ rfl))
  have hC : H4.Ns (D + 1) (fun _ => none) := by
    have := Heap.Ns.new (s₂.heap.push { cls := .type "list", dict := none, data := .seq ([] : List Value).toArray }) (.type "dict")
    rw [eD, hDe] at this
    obtain ⟨o, es, ep, e, r⟩ := this
    exact ⟨o, es, ep, hH4 ▸ pushO e, r⟩
  have capC : ∀ y ∈ caps, ∀ c, (cEnv scope own cl (D + 1) env).cells.lookup y = some c → c < hB.objs.size := fun y hy c hc => by
    obtain ⟨c', h1, h2, _⟩ := hcap y hy
    rw [h1 (D + 1)] at hc; cases hc
    exact capLt y hy _ h2
  have x14 : Ext w true hB H4 := .of up14
  have hDav : D ∉ av := fun ha => absurd (hav _ ha) (Nat.not_lt.mpr hD1)
  have F4 : Fs w (D :: av) true hB (cEnv scope own cl (D + 1) env) (σr σ caps) none H4 :=
    { sees := ⟨hkind, n₂.glob, n₂.blt, ⟨x14.gd gB, fun a ha => (List.mem_cons.mp ha).elim (fun e => e ▸ ⟨Nat.le_trans gB.size hD1, _, lD, .seq rfl⟩) ((n₂.gv.ext x24).own a), fun a ha => (List.mem_cons.mp ha).elim (fun e => e ▸ n₂.gd.kfree n₂D) (n₂.gv.kn a)⟩, fun y d e => by
        unfold σr at e
        split at e
        · rename_i hy
          obtain ⟨u, ⟨V1, V2⟩, ru⟩ := n₂.var y d e
          obtain ⟨c, h1, h2, h3⟩ := hcap y hy
          refine ⟨u, ⟨V1, ?_⟩, (ru.more (a := D) n₂D).mono (x24.seq n₂.gd)⟩
          rcases V2 with ⟨a, m', b, cc⟩ | ⟨a, c', b, dd⟩ | ⟨a, a', c', b, dd⟩
          · rcases h3 with h3 | h3 <;> (rw [h3.1] at a; cases a)
          · rw [h2] at b; cases b
            rcases h3 with h3 | h3
            · exact .inr (.inl ⟨h3.2 _, c, h1 _, dd.keeps up24⟩)
            · rw [h3.1] at a; cases a
          · rw [h2] at b; cases b
            rcases h3 with h3 | h3
            · rw [h3.1] at a; cases a
            · exact .inr (.inr ⟨h3.2 _, a', c, h1 _, dd.keeps up24⟩)
        · cases e⟩
      g0 := gB
      ext := x14
      ns := ⟨_, hC⟩
      fresh := Nat.le_succ_of_le hD1
      cel := fun nm c hk hl hge => by
        rcases hk1 _ (PySem.mem_of_lookup hk) rfl with ho | ho
        · subst ho
          have hl' : List.lookup nm ((nm, D + 1 + 1) :: cl) = some c := hl
          rw [List.lookup_cons, beq_self_eq_true] at hl'
          cases hl'
          refine ⟨none, ?_⟩
          rw [← hH4]
          have e3 : ((s₂.heap.push { cls := .type "list", dict := none, data := .seq ([] : List Value).toArray }).push { cls := .type "dict", data := .dict #[] }).objs.size = D + 1 + 1 := by rw [Heap.size_push, eD, hDe]
          refine ⟨{ cls := .type "cell", data := .cell none }, ?_, rfl⟩
          rw [← e3]
          exact Heap.get?_push_size _ rfl
        · exact absurd (capC _ ho c hl) (Nat.not_lt.mpr hge)
      apart := fun nm nm' c hk hge hk' hl hl' => by
        have isOwn : ∀ z, ((cEnv scope own cl (D + 1) env).kindOf z = some .cell ∨ (cEnv scope own cl (D + 1) env).kindOf z = some .free) → (cEnv scope own cl (D + 1) env).cells.lookup z = some c → own = some z := fun z hz hlz => by
          rcases hz with hz | hz
          · exact (hk1 _ (PySem.mem_of_lookup hz) rfl).resolve_right fun ho => absurd (capC _ ho c hlz) (Nat.not_lt.mpr hge)
          · exact absurd (capC _ (hk2 _ (PySem.mem_of_lookup hz) rfl) c hlz) (Nat.not_lt.mpr hge)
        have h1 := isOwn nm' (.inl hk) hl'
        have h2 := isOwn nm hk' hl
        rw [h1] at h2; exact (Option.some.inj h2).symm
      own := trivial }
  have notwr : ∀ b o, hB.get? b = some o → b ∉ wr := fun b o e hb => by rw [(lp.new b hb).1] at e; cases e
  have wrD : ∀ b ∈ wr, b ≠ D := fun b hb => by
    obtain ⟨o, e, _⟩ := lp.pl 0 _ lp.st b hb
    exact fun e' => absurd (Heap.lt_size e) (by rw [e', hDe]; exact Nat.lt_irrefl _)
  have wrOk : ∀ {h : Heap}, (∀ b ∈ wr, ∃ o, h.get? b = some o ∧ Pl o ∧ ∀ it n, o.data ≠ .seq it n) → ∀ b ∈ wr, hB.get? b = none ∧ b ∉ D :: av ∧ ∃ o, h.get? b = some o ∧ Pl o ∧ ∀ it n, o.data ≠ .seq it n := fun {h} hp b hb =>
    ⟨(lp.new b hb).1, fun hm => (List.mem_cons.mp hm).elim (wrD b hb) (lp.new b hb).2, hp b hb⟩
  have st4 : St 0 H4 := lp.frame [] 0 _ _ (fun _ h => by cases h) lp.st fun b o e _ _ _ _ => up24 b o e
  have XD : ∀ b ∈ [D], s₂.heap.objs.size ≤ b := fun b hb => by
    rcases List.mem_cons.mp hb with rfl | hb
    · exact Nat.le_of_eq hDe
    · cases hb
  have loop : ∀ s₅ : Shared, s₅.heap = H4 → Same s₂ s₅ → codeAny (model PP w.w) A (.compLoop (.ListComp elt [⟨target, iter, ifs, 0⟩] scope pos) 0 (.ref J) (.ref D) (cEnv scope own cl (D + 1) env)) (RR (.ref D) (D + 1)) s₅ := by
    intro s₅ hh5 sm5
    refine compLoop_go (fun n s' => ∃ i vs m, n = ds.length - i ∧ i ≤ ds.length ∧ Same s₂ s' ∧ Kf (D :: av) hB s'.heap ∧ St i s'.heap ∧ Fs w (D :: av) true hB (cEnv scope own cl (D + 1) env) (σr σ caps) none s'.heap ∧ IsL s'.heap D vs.toArray m ∧ Reps (D :: av) s'.heap vs (((ds.take i).filter p).map f)) ?_ (ds.length - 0)
      ⟨0, [], 0, rfl, Nat.zero_le _, sm5, hh5 ▸ fun b o e _ _ _ _ => up14 b o e, hh5 ▸ st4, hh5 ▸ F4, hh5 ▸ lD, .nil⟩
    rintro n' s' ⟨i, vs, m, rfl, hi, smi, kf, st, Fi, lDi, ri⟩
    have sk : SeqKeep ([D] ++ av) hB s'.heap := fun a o it n ha e hd => kf a o e (.seq hd) (gB.ne e fun vs hq => by rw [hd] at hq; cases hq).1 (gB.ne e fun vs hq => by rw [hd] at hq; cases hq).2 ha
    rcases Nat.lt_or_ge i ds.length with hlt | hge
    · have hd : ds[i]? = some ds[i] := by simp [hlt]
      have hmem : ds[i] ∈ ds := List.getElem_mem hlt
      have htake : ds.take (i + 1) = ds.take i ++ [ds[i]] := by rw [List.take_add_one, hd]; rfl
      refine lp.next [D] i ds[i] s' _ _ (fun b hb => ⟨XD b hb, by
          rcases List.mem_cons.mp hb with rfl | hb
          · exact Heap.lt_size lDi
          · cases hb⟩) (fun b hb => Fi.sees.gv.lt b (.tail _ hb)) hd st sk gB fun v s₆ sm₆ k₆ rv md => ?_
      have F₆ := Fi.bump (wrOk (lp.pl i _ st)) k₆
      have kf₆ : Kf (D :: av) hB s₆.heap := fun b o e p h1 h2 h3 => k₆ b o (notwr b o e) (kf b o e p h1 h2 h3)
      have l₆ : IsL s₆.heap D vs.toArray m := k₆ _ _ (fun hb => wrD D hb rfl) lDi
      have r₆ : Reps (D :: av) s₆.heap vs (((ds.take i).filter p).map f) := ri.mono fun a o it n ha e hd => k₆ a o (fun hb => by
        obtain ⟨o', e', _, hn⟩ := lp.pl i _ st a hb
        rw [e] at e'; cases e'; exact hn _ _ hd) e
      refine lp.go (D :: av) i v ds[i] s₆ _ _ md rv fun s₇ sm₇ k₇ rv₇ st₇ => ?_
      have F₇ := F₆.bump (wrOk (lp.plM i v _ md)) k₇
      have kf₇ : Kf (D :: av) hB s₇.heap := fun b o e p h1 h2 h3 => k₇ b o (notwr b o e) (kf₆ b o e p h1 h2 h3)
      have l₇ : IsL s₇.heap D vs.toArray m := k₇ _ _ (fun hb => wrD D hb rfl) l₆
      have r₇ : Reps (D :: av) s₇.heap vs (((ds.take i).filter p).map f) := r₆.mono fun a o it n ha e hd => k₇ a o (fun hb => by
        obtain ⟨o', e', _, hn⟩ := lp.plM i v _ md a hb
        rw [e] at e'; cases e'; exact hn _ _ hd) e
      refine htg (D :: av) hB (D + 1) ds[i] hmem (Nat.le_succ_of_le hD1) A s₇ _ _ v _ rm F₇ rv₇ fun s₈ mv₈ F₈ => ?_
      have big : D ≠ 30 ∧ D ≠ 37 := gB.big hD1
      have l₈ : IsL s₈.heap D vs.toArray m := mv₈.2 _ _ l₇ (.seq rfl) big.1 big.2 (by intro h; cases h)
      have kf₈ : Kf (D :: av) hB s₈.heap := kf₇.trans (mv₈.weak (av := D :: av)).2
      have r₈ : Reps (D :: av) s₈.heap vs (((ds.take i).filter p).map f) := r₇.mono fun a o it n ha e hd => mv₈.2 a o e (.seq hd) (F₇.sees.gd.ne e fun vs hq => by rw [hd] at hq; cases hq).1 (F₇.sees.gd.ne e fun vs hq => by rw [hd] at hq; cases hq).2 (by intro h; cases h)
      have sm₈ : Same s₂ s₈ := ((smi.trans sm₆).trans sm₇).trans mv₈.1
      refine ht (D :: av) (D + 1) ds[i] hmem A s₈ _ _ rm F₈.sees fun s₉ k₉ => ?_
      have F₉ := F₈.extend k₉.ext
      have l₉ : IsL s₉.heap D vs.toArray m := k₉.ext.all _ _ l₈
      have r₉ := r₈.mono (k₉.ext.seq F₈.sees.gd)
      have kf₉ : Kf (D :: av) hB s₉.heap := kf₈.trans k₉.ext.kf
      have drop : ∀ {h' : Heap}, Fs w (D :: av) true hB (cEnv scope own cl (D + 1) env) (tf ds[i] (σr σ caps)) none h' → Fs w (D :: av) true hB (cEnv scope own cl (D + 1) env) (σr σ caps) none h' := fun {h'} F => F.less fun y d e => by
        unfold σr at e
        split at e
        · rename_i hy; rw [htf ds[i] y hy]; exact e
        · cases e
      have stOf : ∀ {h' : Heap}, Kf ([D] ++ av) s₇.heap h' → St (i + 1) h' := fun {h'} kk => lp.frame [D] _ _ _ XD st₇ kk
      by_cases hp : p ds[i] = true
      · rw [hp, if_pos rfl]
        refine he (D :: av) (D + 1) ds[i] hmem hp A s₉ _ _ rm F₉.sees fun y s₁₀ ry k₁₀ => ?_
        have F₁₀ := F₉.extend k₁₀.ext
        have l₁₀ : IsL s₁₀.heap D vs.toArray m := k₁₀.ext.all _ _ l₉
        have r₁₀ := r₉.mono (k₁₀.ext.seq F₉.sees.gd)
        have kf₁₀ : Kf (D :: av) hB s₁₀.heap := kf₉.trans k₁₀.ext.kf
        have hvl : vs.length ≤ sizeLine := by
          rw [r₁₀.length, List.length_map]
          refine Nat.le_trans (List.length_filter_le _ _) (Nat.le_trans ?_ hz)
          rw [List.length_take]; exact Nat.min_le_right _ _
        refine wpAny_list_append_plain ⟨m, l₁₀⟩ (fun h' hl' hs' => ?_) (by rw [List.size_toArray]; exact hvl)
        obtain ⟨m', hl'⟩ := hl'
        have hpush : vs.toArray.push y = (vs ++ [y]).toArray := by simp
        rw [hpush] at hl'
        have F₁₁ := F₁₀.upd (.head _) hD1 l₁₀ hl' hs'
        have kD : Kf (D :: av) s₁₀.heap h' := fun b o e p h1 h2 h3 => (hs'.2 b fun e' => h3 (e' ▸ .head _)).trans e
        have skD : SeqKeep (D :: av) s₁₀.heap h' := fun b o it nn hb e hd => (hs'.2 b fun e' => hb (e' ▸ .head _)).trans e
        refine ⟨ds.length - (i + 1), by omega, i + 1, vs ++ [y], m', rfl, hlt, ((sm₈.trans k₉.same).trans k₁₀.same).trans ⟨_, _, rfl⟩, kf₁₀.trans kD, stOf (((mv₈.weak (av := D :: av)).2.trans k₉.ext.kf).trans (Kf.trans k₁₀.ext.kf kD)), drop F₁₁, hl', ?_⟩
        rw [htake, List.filter_append, List.map_append]
        simp only [List.filter_cons, hp, if_true, List.filter_nil, List.map_cons, List.map_nil]
        exact (r₁₀.append (.cons ry .nil)).mono skD
      · rw [Bool.not_eq_true] at hp
        rw [hp, if_neg Bool.false_ne_true]
        refine ⟨ds.length - (i + 1), by omega, i + 1, vs, m, rfl, hlt, sm₈.trans k₉.same, kf₉, stOf ((mv₈.weak (av := D :: av)).2.trans k₉.ext.kf), drop F₉, l₉, ?_⟩
        rw [htake, List.filter_append]
        simp only [List.filter_cons, hp, Bool.false_eq_true, if_false, List.filter_nil, List.append_nil]
        exact r₉
    · have hie : i = ds.length := Nat.le_antisymm hi hge
      subst hie
      refine lp.done s' _ _ st fun s₆ sm₆ k₆ => ?_
      have F₆ := Fi.bump (wrOk (lp.pl _ _ st)) k₆
      have l₆ : IsL s₆.heap D vs.toArray m := k₆ _ _ (fun hb => wrD D hb rfl) lDi
      have r₆ : Reps (D :: av) s₆.heap vs ((ds.filter p).map f) := by
        rw [List.take_of_length_le (Nat.le_refl _)] at ri
        exact ri.mono fun a o it n ha e hd => k₆ a o (fun hb => by
          obtain ⟨o', e', _, hn⟩ := lp.pl _ _ st a hb
          rw [e] at e'; cases e'; exact hn _ _ hd) e
      exact hR D (D + 1) s₆ vs m (smi.trans sm₆) F₆.ext hDav l₆ r₆ F₆.ns F₆.fresh
  have hsm4 : Same s₂ { s₂ with heap := H4 } := ⟨_, _, rfl⟩
  exact codeAny_compStart_list (loop _ rfl hsm4) (lp.self _ _ _ st4 (loop _ rfl hsm4))
theorem comp_core {A : Around} {E : Value → Shared → Prop} {elt target iter : Expr} {pos : Pos} {ifs : List Expr} {scope : Scope} {own : Option Str} {cl : List (Str × Addr)} {caps : List Str} {ds : List D} {p : D → Bool} {f : D → D} (tf : D → Sg → Sg)
    {hB : Heap} {s₂ : Shared} {J : Addr} {wr : List Addr} {St : Nat → Heap → Prop} {Md : Nat → Value → Heap → Prop} {Q : Value → Shared → Prop} (rm : Room k A) (n₂ : Sees w av s₂.heap env σ) (gB : Gd w hB) (lp : Lp w A av hB ds target J wr s₂ St Md) (hav : ∀ a ∈ av, a < hB.objs.size)
    (hcs : ∀ N, cellsFrom N scope.names cl = ownC own N ++ cl) (hph : ∀ h, pushCells h scope.names = ownH own h) (hcap : ∀ y ∈ caps, Cap' env scope own cl y)
    (capLt : ∀ y ∈ caps, ∀ c, env.cells.lookup y = some c → c < hB.objs.size)
    (hk1 : ∀ r ∈ (relabel scope env).names, r.2 = .cell → own = some r.1 ∨ r.1 ∈ caps) (hk2 : ∀ r ∈ (relabel scope env).names, r.2 = .free → r.1 ∈ caps)
    (htg : ∀ av' h₀ C d, d ∈ ds → h₀.objs.size ≤ C → Tgt w av' k true h₀ (cEnv scope own cl C env) target d (tf d) none)
    (htf : ∀ d y, y ∈ caps → tf d (σr σ caps) y = σ y)
    (ht : ∀ av' C d, d ∈ ds → Tsts w av' k (cEnv scope own cl C env) (tf d (σr σ caps)) ifs (p d)) (he : ∀ av' C d, d ∈ ds → p d = true → Ev w av' k true (cEnv scope own cl C env) (tf d (σr σ caps)) elt (f d)) (hz : ds.length ≤ sizeLine)
    (hkind : scope.kind = .function)
    (h : ∀ y h' tk, Rep av h' y (.list ((ds.filter p).map f)) → Ext w true hB h' → Q y { s₂ with heap := h', toks := tk }) :
    wpAny (model PP w.w) A (newList []) (fun acc s₃ => wpAny (model PP w.w) A (newFunctionEnv scope env.globals cl [] env.qual none .none (some env)) (fun cenv s₄ =>
      codeAny (model PP w.w) A (.compStart (.ListComp elt [⟨target, iter, ifs, 0⟩] scope pos) 0 (.ref J) acc { cenv with scope := relabel scope env }) (compPost (model PP w.w) A E none Q acc cenv.locals) s₄) E s₃) E s₂ := by
  refine comp_coreR (RR := fun acc C => compPost (model PP w.w) A E none Q acc C) tf rm n₂ gB lp hav hcs hph hcap capLt hk1 hk2 htg htf ht he hz hkind fun D C s₆ vs m sm x hD l r hns hC => ?_
  obtain ⟨mm, hmm⟩ := hns
  refine ⟨mm, hmm, fun h' hs' => ?_⟩
  have hne : ∀ {b : Addr} {o : Obj}, s₆.heap.get? b = some o → (∀ es n, o.data ≠ .dict es n) → h'.get? b = some o := fun {b o} e hd => (hs'.2 b fun e' => by
    obtain ⟨o', es, ep, e2, hd2, _⟩ := hmm
    rw [e', e2] at e; cases e; exact hd _ _ hd2).trans e
  have x16 : Ext w true hB h' := x.but gB hC hs' fun o vs e hd => by
    obtain ⟨o', es, ep, e2, hd2, _⟩ := hmm
    rw [e2] at e; cases e; rw [hd] at hd2; cases hd2
  obtain ⟨h6, t6, rfl⟩ := sm
  exact h _ h' t6 (.list hD (hne l fun _ _ e => by cases e) ((r.less fun a ha => .tail _ ha).mono fun a o it n ha e hd => hne e fun es m hq => by rw [hd] at hq; cases hq)) x16
theorem Ev.compG {elt target iter : Expr} {pos : Pos} {ifs : List Expr} {scope : Scope} {own : Option Str} {cl : List (Str × Addr)} {caps : List Str} {ds : List D} {p : D → Bool} {f : D → D} (tf : D → Sg → Sg) (hit : Lps w av k q env σ target iter ds)
    (hclos : closureFor scope env = pure cl) (hcs : ∀ N, cellsFrom N scope.names cl = ownC own N ++ cl) (hph : ∀ h, pushCells h scope.names = ownH own h) (hcap : ∀ y ∈ caps, Cap' env scope own cl y) (hσ : ∀ y ∈ caps, ∃ d, σ y = some d)
    (hk1 : ∀ r ∈ (relabel scope env).names, r.2 = .cell → own = some r.1 ∨ r.1 ∈ caps) (hk2 : ∀ r ∈ (relabel scope env).names, r.2 = .free → r.1 ∈ caps)
    (htg : ∀ av' h₀ C d, d ∈ ds → h₀.objs.size ≤ C → Tgt w av' k true h₀ (cEnv scope own cl C env) target d (tf d) none)
    (htf : ∀ d y, y ∈ caps → tf d (σr σ caps) y = σ y)
    (ht : ∀ av' C d, d ∈ ds → Tsts w av' k (cEnv scope own cl C env) (tf d (σr σ caps)) ifs (p d)) (he : ∀ av' C d, d ∈ ds → p d = true → Ev w av' k true (cEnv scope own cl C env) (tf d (σr σ caps)) elt (f d)) (hz : ds.length ≤ sizeLine)
    (hkind : autoParam (scope.kind = .function) PyProof.Rows.call_M_of_MD._auto_3) (hnames : autoParam (∀ y ∈ scope.names, y.2 = .local → scope.names.lookup y.1 = some .local) PyProof.Rows.glB_def._auto_7)
    (hs : autoParam (∀ x, foldedSetIterable iter env x = pure x) PyProof.Rows.Assign_ListComp_rowsP._auto_1) :
    Ev w av k q env σ (.ListComp elt [⟨target, iter, ifs, 0⟩] scope pos) (.list ((ds.filter p).map f)) := fun A s E Q rm n h => by
  rw [eval_ListComp]
  refine wpAny_comprehension_free (use := none) rfl hs hclos hkind hnames (hit A s E _ rm n fun s₁ s₂ J wr St Md k₁ sm lp => ?_)
  have n₁ := n.kp k₁
  refine comp_core tf rm (n₁.ext (Ext.of (q := true) lp.old)) n₁.gd lp n₁.gv.lt hcs hph hcap (fun y hy c hc => ?_) hk1 hk2 htg htf ht he hz hkind fun y h' tk r x => h y _ r ?_
  · obtain ⟨d, hd⟩ := hσ y hy
    obtain ⟨v, V, _⟩ := n₁.var y d hd
    obtain ⟨c', _, h2, h3⟩ := hcap y hy
    rcases V.2 with ⟨a, _⟩ | ⟨_, c2, b, ic⟩ | ⟨_, _, c2, b, ic⟩
    · rcases h3 with h3 | h3 <;> (rw [h3.1] at a; cases a)
    · rw [hc] at b; cases b; exact ic.lt
    · rw [hc] at b; cases b; exact ic.lt
  · obtain ⟨h2, t2, rfl⟩ := sm
    exact k₁.trans ⟨h', tk, rfl, x.weak⟩
end
end Mine

set_option maxRecDepth 100000
set_option maxHeartbeats 1000000
namespace Mine
section
variable {w : Wd} {k : Nat} {q : Bool}
theorem boot_sum : bootBuiltins (Str.ofString "sum") = some (.builtin "sum") := by decide +kernel
theorem boot_len : bootBuiltins (Str.ofString "len") = some (.builtin "len") := by decide +kernel
theorem boot_divmod : bootBuiltins (Str.ofString "divmod") = some (.builtin "divmod") := by decide +kernel
theorem boot_range : bootBuiltins (Str.ofString "range") = some (.type "range") := by decide +kernel
theorem no_range : nsIn (hd.heap_39 w.params) mainGlobals (Str.ofString "range") = some none := by rfl

theorem at_imode : DefAt w (Str.ofString "S_IMODE") 63 := .of rfl rfl
theorem cal_imode {v : Int} : Cal w (k + 1) q (.ref 63) [.int v] (.int (Builtin.bitAnd v 4095)) := by
  refine Cal.defn (xs := [Str.ofString "mode"]) (by rfl) (by rfl) (by rfl) (by rfl) (by rfl) (by rfl) (by decide) (by decide) ?_ ?_
  · intro vs hv
    obtain ⟨_, rfl⟩ := len1 hv
    rfl
  · intro h₀ L av
    exact Ex.retD (Ev.bin (Ev.name rfl) Ev.int Bin.and)
theorem at_ifmt : DefAt w (Str.ofString "S_IFMT") 70 := .of rfl rfl
theorem cal_ifmt {v : Int} : Cal w (k + 1) q (.ref 70) [.int v] (.int (Builtin.bitAnd v 61440)) := by
  refine Cal.defn (xs := [Str.ofString "mode"]) (by rfl) (by rfl) (by rfl) (by rfl) (by rfl) (by rfl) (by decide) (by decide) ?_ ?_
  · intro vs hv
    obtain ⟨_, rfl⟩ := len1 hv
    rfl
  · intro h₀ L av
    exact Ex.retD (Ev.bin (Ev.name rfl) Ev.int Bin.and)

noncomputable def within (f one : Int) (done : List Int) (up : Bool) : Bool :=
  (Builtin.bitAnd f one == (if up then f else one)) && (Builtin.bitAnd (Builtin.bitXor f one) (7 - done.sum) == 0)
theorem at_within : DefAt w (Str.ofString "_law_within") 129 := .of rfl rfl
theorem cal_within {f one : Int} {done : List Int} {up : Bool} : Cal w (k + 1) q (.ref 129) [.int f, .int one, .list (done.map .int), .bool up] (.bool (within f one done up)) := by
  refine Cal.defn (xs := [Str.ofString "shown", Str.ofString "one", Str.ofString "done", Str.ofString "up"]) (by rfl) (by rfl) (by rfl) (by rfl) (by rfl) (by rfl) (by decide) (by decide) ?_ ?_
  · intro vs hv
    obtain ⟨_, _, _, _, rfl⟩ := len4 hv
    rfl
  · intro h₀ L av
    refine Ex.retD (Ev.and2 (Ev.cmp (Ev.bin (Ev.name rfl) (Ev.name rfl) Bin.and) (Ev.ite (d := .int (if up then f else one)) (Tr.val (Ev.name rfl)) ?_ ?_) Cmp.eqI) fun _ => Ev.cmp (Ev.bin (Ev.bin (Ev.name rfl) (Ev.name rfl) Bin.xor) (Ev.bin Ev.int (Ev.calb boot_sum (Evs.cons (Ev.name rfl) .nil) Cal.sum) Bin.sub) Bin.and) Ev.int Cmp.eqI)
    · intro e; have e : up = true := e; subst e; exact Ev.name rfl
    · intro e; have e : up = false := e; subst e; exact Ev.name rfl
end
end Mine

set_option maxRecDepth 100000
set_option maxHeartbeats 1000000
namespace Mine

noncomputable def tx (l : List Nat) : Str := ⟨l.toArray⟩
noncomputable def sgn (t : List Nat) (i : Int) : Nat := t.getD i.toNat 0
noncomputable def kinds : List Nat := [63, 112, 99, 63, 100, 63, 98, 63, 45, 63, 108, 63, 115, 63, 63, 63]
noncomputable def xSs : List Nat := [45, 120, 83, 115]
noncomputable def xTt : List Nat := [45, 120, 84, 116]
noncomputable def trio (fig spec : Int) (ends : List Nat) : List Nat := [sgn [45, 114] (fig / 4 % 2), sgn [45, 119] (fig / 2 % 2), sgn ends (fig % 2 + spec % 2 * 2)]
noncomputable def rowOf (m : Int) : List Nat := sgn kinds (m / 4096 % 16) :: (trio (m / 64) (m / 2048) xSs ++ trio (m / 8) (m / 1024) xSs ++ trio m (m / 512) xTt)

theorem tx_append (a b : List Nat) : tx a ++ tx b = tx (a ++ b) := by
  show (⟨a.toArray ++ b.toArray⟩ : Str) = ⟨(a ++ b).toArray⟩
  rw [List.append_toArray]
theorem tx_length (a : List Nat) : (tx a).length = a.length := by show a.toArray.size = _; simp

theorem Itm.tx {w : Wd} {k : Nat} {x : Str} {t : List Nat} {i : Int} (h0 : 0 ≤ i) (h1 : i < t.length) (h2 : t.length < 1000) (hx : x = tx t) : Itm w k (.str x) (.int i) (.str (tx [sgn t i])) := by
  subst hx
  refine Itm.str (c := sgn t i) h0 ?_ (by omega)
  show t.toArray[i.toNat]? = _
  have : i.toNat < t.length := by omega
  simp [sgn, this]

section
variable {w : Wd} {k : Nat} {q : Bool}
theorem at_row : DefAt w (Str.ofString "_law_row") 117 := .of rfl rfl

noncomputable def rowIts (m : Int) : List (Int × Int × List Nat) := [(m / 64, 2048, xSs), (m / 8, 1024, xSs), (m, 512, xTt)]
noncomputable def rowPre (m : Int) : Nat → List Nat
  | 0 => [sgn kinds (m / 4096 % 16)]
  | 1 => sgn kinds (m / 4096 % 16) :: trio (m / 64) (m / 2048) xSs
  | 2 => sgn kinds (m / 4096 % 16) :: (trio (m / 64) (m / 2048) xSs ++ trio (m / 8) (m / 1024) xSs)
  | _ => rowOf m

noncomputable def rowInv (m : Int) (i : Nat) (σ : Sg) (ω : Om) : Prop := ω = none ∧ σ (Str.ofString "mode") = some (.int m) ∧ σ (Str.ofString "text") = some (.str (tx (rowPre m i)))

theorem cal_row {m : Int} : Cal w (k + 1) q (.ref 117) [.int m] (.str (tx (rowOf m))) := by
  refine Cal.defn (xs := [Str.ofString "mode"]) (by rfl) (by rfl) (by rfl) (by rfl) (by rfl) (by rfl) (by decide) (by decide) ?_ ?_
  · intro vs hv
    obtain ⟨_, rfl⟩ := len1 hv
    rfl
  · intro h₀ L av
    refine Ex.assign (d := .str (tx [sgn kinds (m / 4096 % 16)])) (Ev.sub Ev.str (Ev.bin (Ev.bin (Ev.name rfl) Ev.int (Bin.div (by decide) (by decide))) Ev.int (Bin.mod (by decide))) (Itm.tx (by omega) (by show _ < ((16 : Nat) : Int); omega) (by decide) (by rfl))) ⟨.inl rfl, by decide⟩ ?_
    refine Ex.forW (ds := [.tup [.int (m / 64), .int 2048, .str (tx xSs)], .tup [.int (m / 8), .int 1024, .str (tx xSs)], .tup [.int m, .int 512, .str (tx xTt)]])
      (fun d σ => match d with | .tup ds => σ.sets [Str.ofString "figure", Str.ofString "above", Str.ofString "ends"] ds | _ => σ) (rowInv m) (fun _ => False) (Lps.of (It.tup (Ev.tup ?_))) ⟨rfl, rfl, rfl⟩ ?_ ?_ ?_ (fun _ h => h.elim)
    · refine Evs.cons (Ev.tup (Evs.cons (Ev.bin (Ev.name rfl) Ev.int (Bin.div (by decide) (by decide))) (Evs.cons Ev.int (Evs.cons Ev.str .nil)))) (Evs.cons (Ev.tup (Evs.cons (Ev.bin (Ev.name rfl) Ev.int (Bin.div (by decide) (by decide))) (Evs.cons Ev.int (Evs.cons Ev.str .nil)))) (Evs.cons (Ev.tup (Evs.cons (Ev.name rfl) (Evs.cons Ev.int (Evs.cons Ev.str .nil)))) .nil))
    · rintro i d σ' ω' hd ⟨rfl, hm, ht⟩
      match i, hd with
      | 0, hd => cases hd; exact Tgt.tup (sto_assign ⟨.inl rfl, by decide⟩ (sto_assign ⟨.inl rfl, by decide⟩ (sto_assign ⟨.inl rfl, by decide⟩ sto_nil))) (fun _ _ _ e => by cases e) rfl
      | 1, hd => cases hd; exact Tgt.tup (sto_assign ⟨.inl rfl, by decide⟩ (sto_assign ⟨.inl rfl, by decide⟩ (sto_assign ⟨.inl rfl, by decide⟩ sto_nil))) (fun _ _ _ e => by cases e) rfl
      | 2, hd => cases hd; exact Tgt.tup (sto_assign ⟨.inl rfl, by decide⟩ (sto_assign ⟨.inl rfl, by decide⟩ (sto_assign ⟨.inl rfl, by decide⟩ sto_nil))) (fun _ _ _ e => by cases e) rfl
    · rintro i d σ' ω' hd ⟨rfl, hm, ht⟩
      obtain ⟨fig, ab, e, rfl, hab, hab2, he, hpre, hnext⟩ : ∃ fig ab e, d = .tup [.int fig, .int ab, .str (tx e)] ∧ 0 < ab ∧ ab < 100000 ∧ e.length = 4 ∧ (rowPre m i).length ≤ 100 ∧ rowPre m (i + 1) = rowPre m i ++ trio fig (m / ab) e := by
        match i, hd with
        | 0, hd => cases hd; exact ⟨_, _, _, rfl, by decide, by decide, rfl, by simp [rowPre], rfl⟩
        | 1, hd => cases hd; exact ⟨_, _, _, rfl, by decide, by decide, rfl, by simp [rowPre, trio], rfl⟩
        | 2, hd => cases hd; exact ⟨_, _, _, rfl, by decide, by decide, rfl, by simp [rowPre, trio], by simp [rowPre, rowOf]⟩
      refine Ex.augS (a := tx (rowPre m i)) (b := tx [sgn [45, 114] (fig / 4 % 2), sgn [45, 119] (fig / 2 % 2)]) ht ?_ ⟨.inl rfl, by decide⟩ (by rw [tx_length, tx_length]; show (rowPre m i).length + 2 ≤ 16777216; omega) ?_
      · rw [show tx [sgn [45, 114] (fig / 4 % 2), sgn [45, 119] (fig / 2 % 2)] = tx [sgn [45, 114] (fig / 4 % 2)] ++ tx [sgn [45, 119] (fig / 2 % 2)] from (tx_append [_] [_]).symm]
        exact Ev.bin (Ev.sub Ev.str (Ev.bin (Ev.bin (Ev.name rfl) Ev.int (Bin.div (by decide) (by decide))) Ev.int (Bin.mod (by decide))) (Itm.tx (by omega) (by show _ < ((2 : Nat) : Int); omega) (by decide) (by rfl)))
          (Ev.sub Ev.str (Ev.bin (Ev.bin (Ev.name rfl) Ev.int (Bin.div (by decide) (by decide))) Ev.int (Bin.mod (by decide))) (Itm.tx (by omega) (by show _ < ((2 : Nat) : Int); omega) (by decide) (by rfl))) (Bin.addS (by rw [tx_length, tx_length]; show 2 ≤ 16777216; decide))
      · rw [tx_append]
        refine Ex.augS (a := tx (rowPre m i ++ [sgn [45, 114] (fig / 4 % 2), sgn [45, 119] (fig / 2 % 2)])) (b := tx [sgn e (fig % 2 + m / ab % 2 * 2)]) rfl ?_ ⟨.inl rfl, by decide⟩ (by rw [tx_length, tx_length, List.length_append]; show (rowPre m i).length + 2 + 1 ≤ 16777216; omega) ?_
        · exact Ev.sub (Ev.name rfl) (Ev.bin (Ev.bin (Ev.name rfl) Ev.int (Bin.mod (by decide))) (Ev.bin (Ev.bin (Ev.bin (Ev.name hm) (Ev.name rfl) (Bin.div hab (by
            have : ab.natAbs.log2 < 17 := (Nat.log2_lt (by omega)).mpr (by omega)
            omega))) Ev.int (Bin.mod (by decide))) Ev.int (Bin.mul (.inr (by decide)))) Bin.add) (Itm.tx (by omega) (by rw [he]; show _ < ((4 : Nat) : Int); omega) (by omega) rfl)
        · refine Ex.nil fun hp F => ⟨_, _, ?_, F⟩
          refine ⟨rfl, hm, ?_⟩
          show some (D.str (tx _ ++ tx _)) = _
          rw [tx_append, List.append_assoc, hnext]; rfl
    · rintro σ' ω' ⟨rfl, hm, ht⟩
      exact Ex.nil fun hp F => ⟨_, _, F, Ex.retD (Ev.name ht)⟩
end
end Mine

set_option maxRecDepth 100000
set_option maxHeartbeats 1000000
namespace Mine
section
variable {w : Wd} {A : Around} {E : Value → Shared → Prop} {s : Shared}

theorem nextTup {it t : Addr} {i : Nat} {items : Array Value} {x : Value} {Q : Value → Shared → Prop} (hit : s.heap.IsTupleIter it t i) (ht : s.heap.IsTuple t items) (hx : items[i]? = some x)
    (hQ : ∀ h', h'.IsTupleIter it t (i + 1) → Heap.SameBut it s.heap h' → Q x { s with heap := h' }) : wpAny (model PP w.w) A (Builtin.SmallTypes.nextOf (.ref it)) Q E s := by
  obtain ⟨o, ho, hc, hd⟩ := id hit
  obtain ⟨ol, hol, _, nl, hdl⟩ := ht
  unfold Builtin.SmallTypes.nextOf
  refine wpAny_bind (wpAny_callSpecial?_slot (name := Str.ofString "__next__") hit.typeIs PySem.F.slot_tuple_iterator_next
    (wpAny_call_entry PySem.F.slot_tuple_iterator_next hit.typeIs PySem.F.entry_tuple_iterator_next ?_ (PySem.F.args_tuple_iterator_next_1 _)))
  show wpAny _ _ (field (.ref it) 0 >>= _) _ _ s
  refine wpAny_bind (wpAny_field ho hd (x := .ref t) rfl ?_)
  show wpAny _ _ (if (Value.ref t == Value.none) = true then _ else _) _ _ s
  rw [if_neg (show ¬ ((Value.ref t == Value.none) = true) from Bool.false_ne_true)]
  show wpAny _ _ (field (.ref it) 1 >>= _) _ _ s
  refine wpAny_bind (wpAny_field ho hd (x := .int i 0) rfl ?_)
  show wpAny _ _ (seqItems? (.ref t) >>= _) _ _ s
  refine wpAny_bind (wpAny_seqItems hol hdl ?_)
  simp only [Int.toNat_natCast, hx]
  refine wpAny_bind (wpAny_setField ho hd (by simp) (wpAny_pure ⟨x, rfl, wpAny_pure (hQ _ ?_ (Heap.SameBut.update ..))⟩))
  exact ⟨_, Heap.get?_update_self _ ho (Obj.isFreed_of_fields (Obj.data_mapFields hd _)), (Obj.cls_mapFields ..).trans hc, by rw [Obj.data_mapFields hd]; simp [rawInt]⟩

theorem nextTupEnd {it t : Addr} {i : Nat} {items : Array Value} {Q : Value → Shared → Prop} (hh : A.handled = none) (hit : s.heap.IsTupleIter it t i) (ht : s.heap.IsTuple t items) (hx : items[i]? = none)
    (hE : ∀ h' e, Heap.ExtBut it s.heap h' → (∃ o, h'.get? e = some o ∧ o.cls = .type "StopIteration") → E (.ref e) { s with heap := h' }) : wpAny (model PP w.w) A (Builtin.SmallTypes.nextOf (.ref it)) Q E s := by
  obtain ⟨o, ho, hc, hd⟩ := id hit
  obtain ⟨ol, hol, _, nl, hdl⟩ := ht
  unfold Builtin.SmallTypes.nextOf
  refine wpAny_bind (wpAny_callSpecial?_slot (name := Str.ofString "__next__") hit.typeIs PySem.F.slot_tuple_iterator_next
    (wpAny_call_entry PySem.F.slot_tuple_iterator_next hit.typeIs PySem.F.entry_tuple_iterator_next ?_ (PySem.F.args_tuple_iterator_next_1 _)))
  show wpAny _ _ (field (.ref it) 0 >>= _) _ _ s
  refine wpAny_bind (wpAny_field ho hd (x := .ref t) rfl ?_)
  show wpAny _ _ (if (Value.ref t == Value.none) = true then _ else _) _ _ s
  rw [if_neg (show ¬ ((Value.ref t == Value.none) = true) from Bool.false_ne_true)]
  show wpAny _ _ (field (.ref it) 1 >>= _) _ _ s
  refine wpAny_bind (wpAny_field ho hd (x := .int i 0) rfl ?_)
  show wpAny _ _ (seqItems? (.ref t) >>= _) _ _ s
  refine wpAny_bind (wpAny_seqItems hol hdl ?_)
  simp only [Int.toNat_natCast, hx]
  refine wpAny_bind (wpAny_rule (wpAny_bind (wpAny_setField ho hd (by simp) ?_)))
  show wpAny _ _ (newExc (.type "StopIteration") [] >>= _) _ _ _
  refine wpAny_bind ?_
  simp only [newExc, newTuple]
  refine wpAny_bind (wpAny_newObj_type ?_ (by size_fits))
  refine wpAny_bind (m := firstArgMember _ _) (wpAny_of_eq (a := Value.none) (by first | rfl | (simp only [firstArgMember]; rfl)) ?_)
  refine wpAny_newObj_type ?_ (by size_fits)
  simp only [raiseNew]
  refine wpAny_bind (wpAny_handled ?_)
  first | rw [show A.in1.handled = none from hh] | rw [hh]
  refine wpAny_bind (wpAny_pure (wpAny_throw ?_))
  exact hE _ _ (((Heap.SameBut.update ..).extBut.push _).push _) ⟨_, Heap.get?_push_size _ rfl, rfl⟩

/-- one turn of an enumerate over a tuple -/
theorem enumNext {e it l : Addr} {i : Nat} {items : Array Value} {x old : Value} {Q : Option Value → Shared → Prop} (he : IsEnum s.heap e it i old) (hit : s.heap.IsTupleIter it l i) (hl : s.heap.IsTuple l items) (hx : items[i]? = some x) (hne : e ≠ it)
    (hQ : ∀ h' T t, IsEnumOut h' e it ((i : Int) + 1) x T → h'.IsTupleIter it l (i + 1) → T = s.heap.objs.size → h'.get? T = some { cls := .type "tuple", data := .seq #[.int i t, x] } →
      (∀ b o, b ≠ e → b ≠ it → s.heap.get? b = some o → h'.get? b = some o) → Q (some (.ref T)) { s with heap := h', toks := s.toks + 1 }) : wpAny (model PP w.w) A (pyNext (.ref e)) Q E s := by
  have hT : s.TypeIs (.ref e) "enumerate" := ⟨_, he, rfl⟩
  unfold pyNext
  refine wpAny_bind (wpAny_attempt (wpAny_callSpecial?_slot (name := Str.ofString "__next__") hT PySem.F.slot_enumerate_next (wpAny_call_entry PySem.F.slot_enumerate_next hT PySem.F.entry_enumerate_next ?_ (PySem.F.args_enumerate_next_1 _))))
  obtain ⟨hp, g, d, tk, os⟩ := s
  show wpAny _ _ (field (.ref e) 2 >>= _) _ _ _
  refine wpAny_bind (wpAny_field he rfl (x := .ref it) rfl ?_)
  refine wpAny_bind (nextTup hit hl hx fun h₁ hit₁ hs₁ => ?_)
  replace hs₁ : Heap.SameBut it hp h₁ := hs₁
  have he₁ : IsEnum h₁ e it i old := (hs₁.2 e hne).trans he
  show wpAny _ _ (field (.ref e) 3 >>= _) _ _ ⟨h₁, g, d, tk, os⟩
  refine wpAny_bind (wpAny_field he₁ rfl (x := rawInt i) rfl ?_)
  show wpAny _ _ (field (.ref e) 4 >>= _) _ _ ⟨h₁, g, d, tk, os⟩
  refine wpAny_bind (wpAny_field he₁ rfl (x := .none) rfl ?_)
  show wpAny _ _ (mkInt i >>= _) _ _ ⟨h₁, g, d, tk, os⟩
  refine wpAny_bind (wpAny_mkInt ?_)
  show wpAny _ _ (setField (.ref e) 3 (rawInt ((i : Int) + 1)) >>= _) _ _ ⟨h₁, g, d, tk + 1, os⟩
  refine wpAny_bind (wpAny_setField_rec he₁ (by simp) fun h₂ he₂ hs₂ => ?_)
  replace hs₂ : Heap.SameBut e h₁ h₂ := hs₂
  replace he₂ : IsEnum h₂ e it ((i : Int) + 1) old := he₂
  show wpAny _ _ (setField (.ref e) 4 .none >>= _) _ _ ⟨h₂, g, d, tk + 1, os⟩
  refine wpAny_bind (wpAny_setField_rec he₂ (by simp) fun h₃ he₃ hs₃ => ?_)
  replace hs₃ : Heap.SameBut e h₂ h₃ := hs₃
  replace he₃ : IsEnum h₃ e it ((i : Int) + 1) old := he₃
  show wpAny _ _ (newTuple [.int i tk, x] >>= _) _ _ ⟨h₃, g, d, tk + 1, os⟩
  refine wpAny_bind (wpAny_newTuple ?_)
  have he₄ : IsEnum (h₃.push { cls := .type "tuple", data := .seq #[.int i tk, x] }) e it ((i : Int) + 1) old := Heap.get?_push_of_some _ he₃
  have hsz : h₃.objs.size = hp.objs.size := by rw [hs₃.1, hs₂.1, hs₁.1]
  have hel : e ≠ h₃.objs.size := Nat.ne_of_lt (Heap.lt_size he₃)
  have ht₄ : (h₃.push { cls := .type "tuple", data := .seq #[.int i tk, x] }).get? h₃.objs.size = some { cls := .type "tuple", data := .seq #[.int i tk, x] } := Heap.get?_push_size _ rfl
  have hk₄ : ∀ b o, b ≠ e → b ≠ it → hp.get? b = some o → (h₃.push { cls := .type "tuple", data := .seq #[.int i tk, x] }).get? b = some o := fun b o hbe hbi hb =>
    Heap.get?_push_of_some _ (hs₃.extBut b o hbe (hs₂.extBut b o hbe (hs₁.extBut b o hbi hb)))
  have hit₄ : (h₃.push { cls := .type "tuple", data := .seq #[.int i tk, x] }).IsTupleIter it l (i + 1) := by
    obtain ⟨o, ho, r⟩ := (hit₁.extBut hs₂.extBut (Ne.symm hne)).extBut hs₃.extBut (Ne.symm hne); exact ⟨o, Heap.get?_push_of_some _ ho, r⟩
  generalize h₃.push { cls := .type "tuple", data := .seq #[.int i tk, x] } = h₄ at he₄ ht₄ hk₄ hit₄ ⊢
  show wpAny _ _ (Builtin.SmallTypes.ownedTupleIsFree (.ref e) >>= _) _ _ ⟨h₄, g, d, tk + 1, os⟩
  refine wpAny_bind ?_
  unfold Builtin.SmallTypes.ownedTupleIsFree
  refine wpAny_bind (wpAny_field he₄ rfl (x := .none) rfl (wpAny_pure ?_))
  simp only [if_true]
  refine wpAny_bind (wpAny_rule ?_)
  refine wpAny_bind (wpAny_field he₄ rfl (x := old) rfl ?_)
  refine wpAny_bind (wpAny_setField_rec he₄ (by simp) fun h₅ he₅ hs₅ => ?_)
  replace hs₅ : Heap.SameBut e h₄ h₅ := hs₅
  replace he₅ : IsEnum h₅ e it ((i : Int) + 1) x := he₅
  show wpAny _ _ (Builtin.SmallTypes.ownedTupleHandOut (.ref e) (.ref h₃.objs.size) >>= _) _ _ ⟨h₅, g, d, tk + 1, os⟩
  refine wpAny_bind ?_
  unfold Builtin.SmallTypes.ownedTupleHandOut
  refine wpAny_bind (wpAny_setField_rec he₅ (by simp) fun h₆ he₆ hs₆ => ?_)
  replace hs₆ : Heap.SameBut e h₅ h₆ := hs₆
  replace he₆ : IsEnumOut h₆ e it ((i : Int) + 1) x h₃.objs.size := he₆
  refine wpAny_setField_rec he₆ (by simp) fun h₇ he₇ hs₇ => ?_
  replace hs₇ : Heap.SameBut e h₆ h₇ := hs₇
  replace he₇ : IsEnumOut h₇ e it ((i : Int) + 1) x h₃.objs.size := he₇
  refine wpAny_bind (wpAny_letGo (wpAny_pure ⟨_, rfl, wpAny_pure (hQ h₇ h₃.objs.size tk he₇ ?_ hsz ?_ ?_)⟩))
  · exact ((hit₄.extBut hs₅.extBut (Ne.symm hne)).extBut hs₆.extBut (Ne.symm hne)).extBut hs₇.extBut (Ne.symm hne)
  · exact hs₇.extBut _ _ (Ne.symm hel) (hs₆.extBut _ _ (Ne.symm hel) (hs₅.extBut _ _ (Ne.symm hel) ht₄))
  · exact fun b o hbe hbi hb => hs₇.extBut b o hbe (hs₆.extBut b o hbe (hs₅.extBut b o hbe (hk₄ b o hbe hbi hb)))

theorem enumEnd {e it l : Addr} {i : Nat} {items : Array Value} {old : Value} {Q : Option Value → Shared → Prop} (hh : A.handled = none) (he : IsEnum s.heap e it i old) (hit : s.heap.IsTupleIter it l i) (hl : s.heap.IsTuple l items) (hx : items[i]? = none)
    (hQ : ∀ h', Heap.ExtBut it s.heap h' → Q none { s with heap := h' }) : wpAny (model PP w.w) A (pyNext (.ref e)) Q E s := by
  have hT : s.TypeIs (.ref e) "enumerate" := ⟨_, he, rfl⟩
  unfold pyNext
  refine wpAny_bind (wpAny_attempt (wpAny_callSpecial?_slot (name := Str.ofString "__next__") hT PySem.F.slot_enumerate_next (wpAny_call_entry PySem.F.slot_enumerate_next hT PySem.F.entry_enumerate_next ?_ (PySem.F.args_enumerate_next_1 _))))
  show wpAny _ _ (field (.ref e) 2 >>= _) _ _ _
  refine wpAny_bind (wpAny_field he rfl (x := .ref it) rfl ?_)
  refine wpAny_bind (nextTupEnd hh hit hl hx fun h' x he' hx' => ?_)
  obtain ⟨o, ho, hc⟩ := hx'
  refine wpAny_bind (wpAny_isInstance (T := "StopIteration") (b := true) ⟨o, ho, hc⟩ isSubtype_stop ?_)
  exact wpAny_pure (hQ _ he')

theorem enumNew (l : Addr) (items : Array Value) (n : Nat) :
    Meets (Builtin.«enumerate.__new__» ⟨[.type "enumerate", .ref l], []⟩) (fun _ R s => s.heap.get? l = some { cls := .type "tuple", dict := none, data := .seq items n, slots := #[] } ∧
      R (.ok (.ret (.ref (s.heap.push { cls := .type "tuple_iterator", data := .fields #[.ref l, .int 0 0] }).objs.size)))
        { s with heap := (s.heap.push { cls := .type "tuple_iterator", data := .fields #[.ref l, .int 0 0] }).push { cls := .type "enumerate", data := .fields #[.none, .bool false, .ref s.heap.objs.size, rawInt 0, .none, .none] } }) :=
  .of_wp fun prog w A R s h => by
    obtain ⟨hp, g, d, tk, os⟩ := s; obtain ⟨hl, h⟩ := h
    have hsub := sub_enumerate
    have hL : Heap.IsTuple (Shared.heap ⟨hp, g, d, tk, os⟩) l items := ⟨_, hl, rfl, n, rfl⟩
    wp_walk using PySem.AutoSeq1.wpAny_loadPart' hl
    refine wpAny_stack_any fun st => wpAny_pure ?_
    split
    · rename_i c _ _ _ _ _
      cases (c == Value.type "enumerate")
      · wp_walk using PySem.AutoSeq1.wpAny_loadPart' hl, wpAny_pyIter_tuple hL
        exact ⟨_, rfl, h⟩
      · wp_walk using PySem.AutoSeq1.wpAny_loadPart' hl, wpAny_pyIter_tuple hL
        exact ⟨_, rfl, h⟩
    · wp_walk using PySem.AutoSeq1.wpAny_loadPart' hl, wpAny_pyIter_tuple hL
      exact ⟨_, rfl, h⟩
end
end Mine

set_option maxRecDepth 100000
set_option maxHeartbeats 1000000
namespace Mine
noncomputable def enumD : Nat → List D → List D
  | _, [] => []
  | i, d :: r => .tup [.int i, d] :: enumD (i + 1) r
theorem enumD_len : ∀ (ds : List D) (j : Nat), (enumD j ds).length = ds.length
  | [], _ => rfl
  | _ :: r, j => congrArg Nat.succ (enumD_len r (j + 1))
theorem enumD_get : ∀ (ds : List D) (j i : Nat) {d' : D}, (enumD j ds)[i]? = some d' → ∃ d, ds[i]? = some d ∧ d' = .tup [.int ((j + i : Nat) : Int), d]
  | [], _, _, _, e => by cases e
  | d :: r, j, 0, _, e => by cases e; exact ⟨d, rfl, rfl⟩
  | d :: r, j, i + 1, _, e => by
    obtain ⟨d2, h1, h2⟩ := enumD_get r (j + 1) i e
    exact ⟨d2, h1, by rw [h2, show j + 1 + i = j + (i + 1) by omega]⟩
theorem boot_enum : bootBuiltins (Str.ofString "enumerate") = some (.type "enumerate") := by decide +kernel

section
variable {w : Wd} {av : List Addr} {k : Nat} {q : Bool} {env : Env} {σ : Sg}
theorem Lps.enum {e : Expr} {p pos tp : Pos} {elts : List Expr} {kk : Nat} {ds : List D} (he : Ev w av k q env σ e (.tup ds)) (hf : nsIn (hd.heap_39 w.params) mainGlobals (Str.ofString "enumerate") = some none) (hk : autoParam (env.kindOf (Str.ofString "enumerate") = some .globalImplicit) PyProof.Rows.call_M_of_MD._auto_3) (hs : autoParam (starEach [e] env = [(false, eval e env)]) PyProof.Rows.call_M_of_MD._auto_3) :
    Lps w av k q env σ (.Tuple elts kk tp) (.Call (.Name (Str.ofString "enumerate") p) [e] [] pos) (enumD 0 ds) := fun A s E Q rm nn h => by
  refine Call_Name1 (name_boot nn hk hf boot_enum (by decide) (PyProof.Rows.callWith_type rfl (evalArgs_plain ?_)) (by decide)) hs
  have := (Evs.cons he .nil hs) pos
  rw [hs] at this
  refine this A s E _ rm nn fun ys s₁ rs k₁ => ?_
  cases rs with | cons r rs =>
  cases rs
  cases r with | @tup l vs m _ ha hl r =>
  have n₁ := nn.kp k₁
  have g₁ := n₁.gd
  refine callType_new PySem.F.called_enumerate (by decide) (PySem.F.typeCall_enumerate_1 _) (PySem.F.newCall_enumerate_1 _) (fun obj => PySem.F.args_object_init_2 obj _) PySem.F.entry_enumerate_new (enumNew l vs.toArray m) ⟨hl, ?_⟩
  have hz : (s₁.heap.push { cls := .type "tuple_iterator", data := .fields #[.ref l, .int 0 0] }).objs.size = s₁.heap.objs.size + 1 := Heap.size_push ..
  show _ ∧ _
  rw [hz]
  have hen : IsEnum ((s₁.heap.push { cls := .type "tuple_iterator", data := .fields #[.ref l, .int 0 0] }).push
      { cls := .type "enumerate", data := .fields #[.none, .bool false, .ref s₁.heap.objs.size, rawInt 0, .none, .none] }) (s₁.heap.objs.size + 1) s₁.heap.objs.size 0 .none := by
    have := Heap.get?_push_size (s₁.heap.push { cls := .type "tuple_iterator", data := .fields #[.ref l, .int 0 0] })
      (o := { cls := .type "enumerate", data := .fields #[.none, .bool false, .ref s₁.heap.objs.size, rawInt 0, .none, .none] }) rfl
    rw [hz] at this; exact this
  refine ⟨⟨_, hen, rfl⟩, wpAny_pyIter_enum hen ?_⟩
  generalize hN : s₁.heap.objs.size = N at hen hz ⊢
  generalize hH : (s₁.heap.push { cls := .type "tuple_iterator", data := .fields #[.ref l, .int 0 0] }).push { cls := .type "enumerate", data := .fields #[.none, .bool false, .ref N, rawInt 0, .none, .none] } = H at hen ⊢
  have hsH : H.objs.size = N + 2 := by rw [← hH, Heap.size_push, hz]
  have old : ∀ b o, s₁.heap.get? b = some o → H.get? b = some o := fun b o e => hH ▸ Heap.get?_push_of_some _ (Heap.get?_push_of_some _ e)
  have hit0 : H.IsTupleIter N l 0 := ⟨_, hH ▸ Heap.get?_push_of_some _ (hN ▸ Heap.get?_push_size _ rfl), rfl, rfl⟩
  have hne : N + 1 ≠ N := Nat.succ_ne_self N
  have ltl : l < N := hN ▸ Heap.lt_size hl
  have bigN : ∀ a, N ≤ a → a ∉ av ∧ a ≠ 30 ∧ a ≠ 37 ∧ s₁.heap.get? a = none := fun a ha' => ⟨fun hm => absurd (n₁.gv.lt _ hm) (by rw [hN]; exact Nat.not_lt.mpr ha'), (g₁.big (hN ▸ ha')).1, (g₁.big (hN ▸ ha')).2, Heap.get?_none_of_le (hN ▸ ha')⟩
  have hlne := g₁.ne hl fun vs e => by cases e
  have wrc : ∀ b ∈ [N + 1, N], b = N + 1 ∨ b = N := fun b hb => by simpa using hb
  have ple : ∀ {h : Heap} {i : Int} {old : Value} {f0 : Value}, h.get? (N + 1) = some { cls := .type "enumerate", dict := none, data := .fields #[f0, .bool false, .ref N, rawInt i, .none, old], slots := #[] } → ∃ o, h.get? (N + 1) = some o ∧ Pl o ∧ ∀ it n, o.data ≠ .seq it n := fun {h i old f0} e => ⟨_, e, .fields rfl (fun x u e => by cases e), fun it n e => by cases e⟩
  have pli : ∀ {h : Heap} {i : Nat}, h.IsTupleIter N l i → ∃ o, h.get? N = some o ∧ Pl o ∧ ∀ it n, o.data ≠ .seq it n := fun {h i} ⟨o, e, _, hd⟩ => ⟨o, e, .fields hd (fun x u e => by cases e), fun it n e => by rw [hd] at e; cases e⟩
  refine h s₁ { s₁ with heap := H } (N + 1) [N + 1, N] (fun i h => (∃ old, IsEnum h (N + 1) N i old) ∧ h.IsTupleIter N l i ∧ IsT h l vs.toArray m)
    (fun i v h => ∃ T x, v = .ref T ∧ IsEnumOut h (N + 1) N ((i : Int) + 1) x T ∧ h.IsTupleIter N l (i + 1) ∧ IsT h l vs.toArray m ∧ T ≠ N + 1 ∧ T ≠ N) k₁ ⟨_, _, rfl⟩ ⟨⟨⟨_, hen⟩, hit0, old _ _ hl⟩, old, ?_, ?_, ?_, ?_, ?_, ?_, ?_, ?_, ?_⟩
  · intro b hb
    rcases wrc b hb with rfl | rfl
    · exact ⟨(bigN _ (Nat.le_succ _)).2.2.2, (bigN _ (Nat.le_succ _)).1⟩
    · exact ⟨(bigN _ (Nat.le_refl _)).2.2.2, (bigN _ (Nat.le_refl _)).1⟩
  · show s₁.heap.objs.size ≤ H.objs.size
    rw [hN, hsH]; exact Nat.le_add_right _ _
  · rintro X i h1 h2 hX ⟨⟨od, a⟩, ⟨o, b, c⟩, d⟩ kf
    have nX : ∀ b, b < N + 2 → b ∉ av → b ∉ X ++ av := fun b hb hn hm => (List.mem_append.mp hm).elim (fun hm => absurd (hX b hm) (by show ¬ H.objs.size ≤ b; rw [hsH]; exact Nat.not_le.mpr hb)) hn
    have b1 := bigN (N + 1) (Nat.le_succ _)
    have b2 := bigN N (Nat.le_refl _)
    obtain ⟨o1, e1, p1, _⟩ := ple a
    obtain ⟨o2, e2, p2, _⟩ := pli ⟨o, b, c⟩
    rw [a] at e1; cases e1
    rw [b] at e2; cases e2
    exact ⟨⟨od, kf _ _ a p1 b1.2.1 b1.2.2.1 (nX _ (Nat.lt_succ_self _) b1.1)⟩, ⟨o, kf _ _ b p2 b2.2.1 b2.2.2.1 (nX _ (Nat.lt_succ_of_lt (Nat.lt_succ_self _)) b2.1), c⟩, kf _ _ d (.seq rfl) hlne.1 hlne.2 (nX _ (Nat.lt_of_lt_of_le ltl (Nat.le_add_right _ _)) ha)⟩
  · rintro i h1 ⟨⟨od, a⟩, b, c⟩ b' hb
    rcases wrc b' hb with rfl | rfl
    · exact ple a
    · exact pli b
  · rintro i v h1 ⟨T, x, _, a, b, c, _⟩ b' hb
    rcases wrc b' hb with rfl | rfl
    · exact ple a
    · exact pli b
  · intro X i d' s Q E hX hav hd st sk g hq
    obtain ⟨⟨od, a⟩, b, c⟩ := st
    obtain ⟨d, h1, rfl⟩ := enumD_get ds 0 i hd
    obtain ⟨x, hx, rx⟩ := r.get' h1
    have hx' : vs.toArray[i]? = some x := by simpa using hx
    refine enumNext a b ⟨_, c, rfl, _, rfl⟩ hx' hne fun h' T t ho hit' hT hg hk => ?_
    have hTlt : T ∉ X ++ av := fun hm => (List.mem_append.mp hm).elim (fun hm => absurd (hX T hm).2 (by rw [hT]; exact Nat.lt_irrefl _)) fun hm => absurd (hav T hm) (by rw [hT]; exact Nat.lt_irrefl _)
    have kept : ∀ b o, b ∉ [N + 1, N] → s.heap.get? b = some o → h'.get? b = some o := fun b o hb e => hk b o (fun e' => hb (e' ▸ .head _)) (fun e' => hb (e' ▸ .tail _ (.head _))) e
    have ge2 : s₁.heap.objs.size ≤ H.objs.size := by rw [hN, hsH]; exact Nat.le_add_right _ _
    have rx' : Rep (X ++ av) s₁.heap x d := rx.moreX fun b hb => Heap.get?_none_of_le (Nat.le_trans ge2 (hX b hb).1)
    have rx2 : Rep (X ++ av) h' x d := rx'.mono fun a o it n ha e hdd => kept a o (fun hb => by
      rcases wrc a hb with rfl | rfl
      · rw [(bigN _ (Nat.le_succ _)).2.2.2] at e; cases e
      · rw [(bigN _ (Nat.le_refl _)).2.2.2] at e; cases e) (sk a o it n ha e hdd)
    have lts : N + 1 < s.heap.objs.size := Heap.lt_size a
    refine hq (.ref T) _ ⟨_, _, rfl⟩ kept (.tup (vs := [_, _]) (n := 0) hTlt hg (.cons (by rw [Nat.zero_add]; exact .int _ _) (.cons rx2 .nil))) ⟨T, x, rfl, ho, hit', kept _ _ (fun hb => by
      rcases wrc l hb with e' | e'
      · exact absurd ltl (by rw [e']; exact Nat.not_lt.mpr (Nat.le_succ _))
      · exact absurd ltl (by rw [e']; exact Nat.lt_irrefl _)) c, by rw [hT]; exact Nat.ne_of_gt lts, by rw [hT]; exact Nat.ne_of_gt (Nat.lt_of_succ_lt lts)⟩
  · rintro av' i v d s Q E ⟨T, x, rfl, ho, hit', c, t1, t2⟩ rv hq
    refine wpAny_letOwnedTupleGo_enum ho fun h' he' hs' => ?_
    have kept : ∀ b o, b ≠ N + 1 → s.heap.get? b = some o → h'.get? b = some o := fun b o hb e => (hs'.2 b hb).trans e
    refine hq { s with heap := h' } ⟨_, _, rfl⟩ (fun b o hb e => kept b o (fun e' => hb (e' ▸ .head _)) e) (rv.mono fun a o it n _ e hdd => kept a o (fun e' => by
      rw [e', ho] at e; cases e; cases hdd) e) ⟨⟨x, by simpa using he'⟩, hit'.at fun o e => kept _ o (Ne.symm hne) e, kept _ _ (Nat.ne_of_lt (Nat.lt_succ_of_lt ltl)) c⟩
  · rintro s Q E ⟨⟨od, a⟩, b, c⟩ hq
    rw [enumD_len] at a b
    refine enumEnd rm.hd a b ⟨_, c, rfl, _, rfl⟩ (by rw [← r.length]; simp) fun h' hx => hq _ ⟨_, s.toks, rfl⟩ fun b o hb e => hx b o (fun e' => hb (e' ▸ .tail _ (.head _))) e
  · rintro s Q E ⟨⟨od, a⟩, b, c⟩ hq
    exact wpAny_pyIter_enum a hq
end
end Mine

set_option maxRecDepth 100000
set_option maxHeartbeats 1000000
namespace Mine
noncomputable def fmRows : List (List (Int × Nat)) := [[(40960, 108), (49152, 115), (32768, 45), (24576, 98), (16384, 100), (8192, 99), (4096, 112)], [(256, 114)], [(128, 119)], [(2112, 115), (2048, 83), (64, 120)], [(32, 114)], [(16, 119)], [(1032, 115), (1024, 83), (8, 120)], [(4, 114)], [(2, 119)], [(513, 116), (512, 84), (1, 120)]]
noncomputable def pairD (x : Int × Nat) : D := .tup [.int x.1, .str (tx [x.2])]
noncomputable def rowD (r : List (Int × Nat)) : D := .tup (r.map pairD)
noncomputable def fmHit (m : Int) (i : Nat) (b : Int) : Bool := if i = 0 then Builtin.bitAnd m 61440 == b else Builtin.bitAnd m b == b
noncomputable def letter (m : Int) (i : Nat) (row : List (Int × Nat)) : Nat := match row.find? (fun x => fmHit m i x.1) with | some x => x.2 | none => if i = 0 then 63 else 45
noncomputable def perms (m : Int) (n : Nat) : List Nat := (List.range n).map fun j => letter m j (fmRows.getD j [])
noncomputable def chD (l : List Nat) : List D := l.map fun c => .str (tx [c])

section
variable {w : Wd} {k : Nat} {q : Bool} {av : List Addr} {env : Env} {σ : Sg}

theorem Gv.kNot {w : Wd} {av : List Addr} {h : Heap} (g : Gv w av h) {a : Addr} (ha : a < 142) : a ∉ av := fun hm => absurd (g.own a hm).1 (Nat.not_le.mpr ha)
theorem tab_rep {h : Heap} (g : Gv w av h) : Rep av h (.ref 103) (.tup (fmRows.map rowD)) := by
  repeat' first
    | exact Reps.nil
    | exact Rep.int _ _
    | exact Rep.str _ _
    | refine Reps.cons ?_ ?_
    | refine Rep.tup (g.kNot (by decide)) (g.gd.X _ _ rfl) ?_
theorem Ex.brk {h₀ : Heap} {ω : Om} {rest : List Stmt} {R : Flow → Heap → Prop} {pos : Pos} (h : ∀ hp, Fs w av q h₀ env σ ω hp → R .brk hp) : Ex w k q h₀ env av σ ω (.Break pos :: rest) R := fun A s E Q rm F hQ =>
  wpAny_execs_cons (wpAny_Break (hQ _ _ .refl (h _ F)))

theorem Ev.table {p : Pos} (hk : autoParam (env.kindOf (Str.ofString "_filemode_table") = some .globalImplicit) PyProof.Rows.call_M_of_MD._auto_3) : Ev w av k q env σ (.Name (Str.ofString "_filemode_table") p) (.tup (fmRows.map rowD)) :=
  fun A s E Q rm n h => name_glob (v := .ref 103) n hk rfl (h _ _ (tab_rep n.gv) .refl) (by decide)

theorem at_filemode : DefAt w (Str.ofString "filemode") 110 := .of rfl rfl
theorem no_enum : nsIn (hd.heap_39 w.params) mainGlobals (Str.ofString "enumerate") = some none := by rfl

noncomputable def fmInv (m : Int) (a : Addr) (i : Nat) (σ : Sg) (ω : Om) : Prop := ω = some (Str.ofString "perm", a, chD (perms m i)) ∧ σ (Str.ofString "mode") = some (.int m)
noncomputable def fmInvI (m : Int) (a : Addr) (i : Nat) (row : List (Int × Nat)) (j : Nat) (σ : Sg) (ω : Om) : Prop :=
  ω = some (Str.ofString "perm", a, chD (perms m i)) ∧ σ (Str.ofString "mode") = some (.int m) ∧ σ (Str.ofString "index") = some (.int i) ∧ ∀ x ∈ row.take j, fmHit m i x.1 = false

theorem perms_succ (m : Int) (i : Nat) : perms m (i + 1) = perms m i ++ [letter m i (fmRows.getD i [])] := by
  unfold perms; rw [List.range_succ, List.map_append]; rfl

theorem letter_hit {m : Int} {i j : Nat} {row : List (Int × Nat)} {x : Int × Nat} (hx : row[j]? = some x) (hh : fmHit m i x.1 = true) (hno : ∀ y ∈ row.take j, fmHit m i y.1 = false) : letter m i row = x.2 := by
  have hlt := (List.getElem?_eq_some_iff.mp hx).1
  have : row.find? (fun x => fmHit m i x.1) = some x := by
    have e : row = row.take j ++ x :: row.drop (j + 1) := by
      rw [← (List.getElem?_eq_some_iff.mp hx).2, ← List.drop_eq_getElem_cons hlt, List.take_append_drop]
    rw [e, List.find?_append, List.find?_eq_none.mpr (fun y hy => by rw [hno y hy]; exact Bool.false_ne_true), List.find?_cons, hh]; rfl
  unfold letter; rw [this]
theorem letter_none {m : Int} {i : Nat} {row : List (Int × Nat)} (hno : ∀ y ∈ row.take row.length, fmHit m i y.1 = false) : letter m i row = if i = 0 then 63 else 45 := by
  rw [List.take_length] at hno
  unfold letter; rw [List.find?_eq_none.mpr (fun y hy => by rw [hno y hy]; exact Bool.false_ne_true)]

theorem cal_filemode {m : Int} : Cal w (k + 2) q (.ref 110) [.int m] (.str (Txt.join (tx []) ((perms m 10).map fun c => tx [c]))) := by
  refine Cal.defn (xs := [Str.ofString "mode"]) (by rfl) (by rfl) (by rfl) (by rfl) (by rfl) (by rfl) (by decide) (by decide) ?_ ?_
  · intro vs hv
    obtain ⟨_, rfl⟩ := len1 hv
    rfl
  · intro h₀ L av
    refine Ex.new ⟨.inl rfl, by decide⟩ fun a hna => ?_
    refine Ex.forW (ds := enumD 0 (fmRows.map rowD)) (fun d σ => match d with | .tup ds => σ.sets [Str.ofString "index", Str.ofString "table"] ds | _ => σ) (fmInv m a) (fun _ => False) (Lps.enum Ev.table no_enum) ⟨rfl, rfl⟩ ?_ ?_ ?_ (fun _ h => h.elim)
    · rintro i d σ' ω' hd ⟨rfl, hm⟩
      obtain ⟨d', _, rfl⟩ := enumD_get _ 0 i hd
      exact Tgt.tup (sto_assign ⟨.inl rfl, by decide⟩ (sto_assign ⟨.inl rfl, by decide⟩ sto_nil)) (fun x hx p e => by
        cases e
        rcases List.mem_cons.mp hx with rfl | hx
        · show Str.ofString "perm" ≠ _; decide
        · rcases List.mem_cons.mp hx with rfl | hx
          · show Str.ofString "perm" ≠ _; decide
          · cases hx) rfl
    · rintro i d σ' ω' hd ⟨rfl, hm⟩
      obtain ⟨d', hd', rfl⟩ := enumD_get _ 0 i hd
      rw [List.getElem?_map] at hd'
      obtain ⟨row, hrow, rfl⟩ : ∃ row, fmRows[i]? = some row ∧ d' = rowD row := by
        cases e : fmRows[i]? with
        | none => rw [e] at hd'; cases hd'
        | some row => rw [e] at hd'; cases hd'; exact ⟨row, rfl, rfl⟩
      have hgd : fmRows.getD i [] = row := by rw [List.getD_eq_getElem?_getD, hrow]; rfl
      have hi10 : i < 10 := (List.getElem?_eq_some_iff.mp hrow).1
      have hz : (chD (perms m i)).length ≤ sizeLine := by
        show _ ≤ 16777216
        simp only [chD, perms, List.length_map, List.length_range]; omega
      have hnext : chD (perms m i) ++ [D.str (tx [letter m i row])] = chD (perms m (i + 1)) := by
        rw [perms_succ, hgd]; simp [chD]
      rw [Nat.zero_add]
      refine Ex.forW (ds := row.map pairD) (fun d σ => match d with | .tup ds => σ.sets [Str.ofString "bit", Str.ofString "char"] ds | _ => σ) (fmInvI m a i row)
        (fun hp => ∃ σ'', Fs w (a :: av) q h₀ _ σ'' (some (Str.ofString "perm", a, chD (perms m (i + 1)))) hp ∧ σ'' (Str.ofString "mode") = some (.int m)) (Lps.of (It.tup (Ev.name rfl))) ⟨rfl, hm, rfl, fun x hx => by cases hx⟩ ?_ ?_ ?_ (fun hp ⟨σ'', F, h1⟩ => ⟨_, _, F, Ex.nil fun hp F => ⟨_, _, ⟨rfl, h1⟩, F⟩⟩)
      · rintro j d σ2 ω2 hd2 ⟨rfl, _⟩
        rw [List.getElem?_map] at hd2
        cases e : row[j]? with
        | none => rw [e] at hd2; cases hd2
        | some x =>
          rw [e] at hd2; cases hd2
          exact Tgt.tup (sto_assign ⟨.inl rfl, by decide⟩ (sto_assign ⟨.inl rfl, by decide⟩ sto_nil)) (fun x hx p e => by
            cases e
            rcases List.mem_cons.mp hx with rfl | hx
            · show Str.ofString "perm" ≠ _; decide
            · rcases List.mem_cons.mp hx with rfl | hx
              · show Str.ofString "perm" ≠ _; decide
              · cases hx) rfl
      · rintro j d σ2 ω2 hd2 ⟨rfl, hm2, hi2, hno⟩
        rw [List.getElem?_map] at hd2
        cases e : row[j]? with
        | none => rw [e] at hd2; cases hd2
        | some x =>
          rw [e] at hd2; cases hd2
          have hno' : fmHit m i x.1 = false → ∀ y ∈ row.take (j + 1), fmHit m i y.1 = false := fun hx y hy => by
            rw [List.take_add_one, e, List.mem_append] at hy
            rcases hy with hy | hy
            · exact hno y hy
            · rcases List.mem_cons.mp hy with rfl | hy
              · exact hx
              · cases hy
          refine Ex.iff (Tr.cmp (Ev.name hi2) Ev.int Cmp.eqI) (fun hc => ?_) (fun hc => ?_)
          · have hi0 : i = 0 := by have := beq_iff_eq.mp hc; omega
            have hh : fmHit m i x.1 = (Builtin.bitAnd m 61440 == x.1) := by unfold fmHit; rw [if_pos hi0]
            refine Ex.iff (Tr.cmp (Ev.calld at_ifmt (Evs.cons (Ev.name hm2) .nil) cal_ifmt) (Ev.name rfl) Cmp.eqI) (fun hc2 => ?_) (fun hc2 => ?_)
            · refine Ex.app (Ev.name rfl) hz (Ex.brk fun hp F => by
                rw [← letter_hit e (hh.trans hc2) hno, hnext] at F
                exact ⟨_, F, hm2⟩)
            · exact Ex.nil fun hp F => ⟨_, _, F, Ex.nil fun hp F => ⟨_, _, F, Ex.nil fun hp F => by refine ⟨_, _, ?_, F⟩; exact ⟨rfl, hm2, hi2, hno' (hh.trans hc2)⟩⟩⟩
          · have hi0 : ¬ i = 0 := fun h => by subst h; cases hc
            have hh : fmHit m i x.1 = (Builtin.bitAnd m x.1 == x.1) := by unfold fmHit; rw [if_neg hi0]
            refine Ex.iff (Tr.cmp (Ev.bin (Ev.name hm2) (Ev.name rfl) Bin.and) (Ev.name rfl) Cmp.eqI) (fun hc2 => ?_) (fun hc2 => ?_)
            · refine Ex.app (Ev.name rfl) hz (Ex.brk fun hp F => by
                rw [← letter_hit e (hh.trans hc2) hno, hnext] at F
                exact ⟨_, F, hm2⟩)
            · exact Ex.nil fun hp F => ⟨_, _, F, Ex.nil fun hp F => ⟨_, _, F, Ex.nil fun hp F => by refine ⟨_, _, ?_, F⟩; exact ⟨rfl, hm2, hi2, hno' (hh.trans hc2)⟩⟩⟩
      · rintro σ2 ω2 ⟨rfl, hm2, hi2, hno⟩
        rw [List.length_map] at hno
        refine Ex.iff (Tr.cmp (Ev.name hi2) Ev.int Cmp.eqI) (fun hc => ?_) (fun hc => ?_)
        · have hi0 : i = 0 := by have := beq_iff_eq.mp hc; omega
          refine Ex.app Ev.str hz (Ex.nil fun hp F => ⟨_, _, F, Ex.nil fun hp F => ⟨_, _, F, Ex.nil fun hp F => by refine ⟨_, _, ?_, F⟩; exact ⟨by rw [← hnext, letter_none hno, if_pos hi0]; rfl, hm2⟩⟩⟩)
        · have hi0 : ¬ i = 0 := fun h => by subst h; cases hc
          refine Ex.app Ev.str hz (Ex.nil fun hp F => ⟨_, _, F, Ex.nil fun hp F => ⟨_, _, F, Ex.nil fun hp F => by refine ⟨_, _, ?_, F⟩; exact ⟨by rw [← hnext, letter_none hno, if_neg hi0]; rfl, hm2⟩⟩⟩)
    · rintro σ' ω' ⟨rfl, hm⟩
      refine Ex.nil fun hp F => ⟨_, _, F, ?_⟩
      rw [show (enumD 0 (fmRows.map rowD)).length = 10 from rfl]
      have hok : JoinOk (tx []) ((perms m 10).map fun c => tx [c]) = true := by
        rfl
      have e : chD (perms m 10) = ((perms m 10).map fun c => tx [c]).map .str := by simp [chD]
      rw [e]
      exact Ex.rel hna (Ex.retD (Ev.meth1 Ev.str (Ev.name rfl) Get.join (Cal.join hok)))
end
end Mine

set_option maxRecDepth 100000
set_option maxHeartbeats 1000000
namespace Mine

theorem bindL_look (kd : Str → Option NameKind) (x : Str) (hx : kd x = some .local) : ∀ (b : List (Str × Value)) (m : Str → Option Value), bindL kd b m x = (b.reverse.lookup x).or (m x)
  | [], m => by simp [bindL]
  | (n, v) :: r, m => by
    rw [bindL, bindL_look kd x hx r, List.reverse_cons, lookup_append_str, Option.or_assoc]
    congr 1
    rw [List.lookup_cons, List.lookup_nil]
    by_cases e : x = n
    · subst e; rw [if_pos hx]; simp
    · have e' : (x == n) = false := by simp [e]
      rw [e']
      by_cases hn : kd n = some .local
      · rw [if_pos hn]; simp [e]
      · rw [if_neg hn]; simp
theorem bindC_look (kd : Str → Option NameKind) (x : Str) (hx : kd x ≠ some .local) : ∀ (b : List (Str × Value)) (m : Str → Option Value), bindC kd b m x = (b.reverse.lookup x).or (m x)
  | [], m => by simp [bindC]
  | (n, v) :: r, m => by
    rw [bindC, bindC_look kd x hx r, List.reverse_cons, lookup_append_str, Option.or_assoc]
    congr 1
    rw [List.lookup_cons, List.lookup_nil]
    by_cases e : x = n
    · subst e; rw [if_neg hx]; simp
    · have e' : (x == n) = false := by simp [e]
      rw [e']
      by_cases hn : kd n = some .local
      · rw [if_pos hn]; simp
      · rw [if_neg hn]; simp [e]

/-- a def with cells is entered -/
theorem Cal.defC {w : Wd} {k : Nat} {q : Bool} {a : Addr} {o : Obj} {fd : FuncData} {body : List Stmt} {xs : List Str} {ds : List D} {d : D} (ho : (hd.heap_39 w.params).lookup a = some o) (hfd : o.data = .func fd) (hbody : fd.body = .stmts body)
    (hcd : codeIn (hd.heap_39 w.params) fd.code fd.qualname = true) (hg : fd.globals = mainGlobals) (hbl : fd.builtins = builtinsNs) (hclo : fd.closure = [])
    (hloc : ∀ x ∈ xs, (fd.scope.names.lookup x = some .local ∨ (fd.scope.names.lookup x = some .cell ∧ ∀ n, ((cellsFrom n fd.scope.names []).lookup x).isSome = true)) ∧ (x == ("__debug__" : Str)) = false)
    (hbind : ∀ vs : List Value, vs.length = ds.length → bindArgs fd ⟨vs, []⟩ = pure (xs.zip vs))
    (h : ∀ h₀ av, (∀ a ∈ av, a < h₀.objs.size) → Ex w k q h₀ (callEnvC fd h₀.objs.size a) av (sg xs ds) none body (RetD w q h₀ av d))
    (hco : autoParam (fd.scope.isCoroutine = false) PyProof.Rows.call_M_of_MD._auto_3) (hgen : autoParam (fd.scope.isGenerator = false) PyProof.Rows.call_M_of_MD._auto_3) (hk : autoParam (fd.scope.kind = .function) PyProof.Rows.call_M_of_MD._auto_3) : Cal w (k + 1) q (.ref a) ds d := fun av A s E Q vs rm g rs hQ => by
  have hz : ∀ y ∈ xs.zip vs, y.1 ∈ xs := fun y hy => (List.of_mem_zip hy).1
  refine wpAny_call (codeAny_call_cells rm.dep (g.gd.X _ _ ho) hfd g.gd.lim (codeRec_of g.gd.X hcd) hbody (hbind vs rs.length) hclo (fun y hy => (hloc _ (hz y hy)).1.imp id fun x => ⟨x.1, x.2 _⟩) (fun s₁ I => ?_) hco hgen hk)
  obtain ⟨h₁, tk, e₁⟩ := I.toInCall.same
  have x1 : Ext w q s.heap s₁.heap := .of I.toInCall.keep
  have F : Fs w av q s.heap (callEnvC fd s.heap.objs.size a) (sg xs ds) none s₁.heap :=
    { sees := ⟨hk, hg, hbl, g.ext x1, fun x d e => by
        obtain ⟨v, e1, r⟩ := zip_lookup rs e
        have hx : x ∈ xs := hz (x, v) (List.mem_reverse.mp (PySem.mem_of_lookup e1))
        refine ⟨v, ⟨(hloc x hx).2, ?_⟩, r.mono (x1.seq g.gd)⟩
        rcases (hloc x hx).1 with hl | ⟨hl, hc⟩
        · refine .inl ⟨hl, _, I.toInCall.ns, ?_⟩
          rw [bindL_look _ _ hl, e1]; rfl
        · obtain ⟨c, hc⟩ := Option.isSome_iff_exists.mp (hc (s.heap.objs.size + 1))
          refine .inr (.inl ⟨hl, c, hc, ?_⟩)
          have := I.cell x c hc
          rw [bindC_look _ _ (by show fd.scope.names.lookup x ≠ _; rw [hl]; decide), e1] at this
          exact this⟩
      g0 := g.gd
      ext := x1
      ns := ⟨_, I.toInCall.ns⟩
      fresh := I.toInCall.fresh
      cel := fun n c _ e _ => ⟨_, I.cell n c e⟩
      apart := fun n n' c _ _ _ e e' => name_of_addr I.apart (PySem.mem_of_lookup e) (PySem.mem_of_lookup e')
      own := trivial }
  refine h s.heap av g.lt _ s₁ _ _ (rm.deeper _) F fun f s' sm hr => ?_
  obtain ⟨v, rfl, r, x2⟩ := hr
  obtain ⟨⟨h', tk', rfl⟩, _⟩ := sm
  subst e₁
  exact hQ v _ r ⟨_, _, rfl, x2⟩

/-! the two tables grow -/
theorem TabOk.but {h h' : Heap} {P P' : Addr} {l c : Nat} {qq : Str} (t : TabOk h P' l c qq) (hx : Heap.ExtBut P h h') (hne : P' ≠ P) (hc : ∀ b o vs x u, h.get? b = some o → o.data = .fields vs → vs[1]? = some (.str x u) → b ≠ P) : TabOk h' P' l c qq := by
  rcases t with t | ⟨c', t, ⟨c2, o, vs, u, e, e1, e2, e3⟩⟩
  · exact .inl (hx _ _ hne t)
  · exact .inr ⟨c', hx _ _ hne t, c2, o, vs, u, e, hx _ _ (hc _ _ _ _ _ e1 e2 e3) e1, e2, e3⟩
theorem Gd.grow1 {w : Wd} {h h' : Heap} (g : Gd w h) (hx : Heap.ExtBut 30 h h') (t : TabOk h' 30 32 4 (Str.ofString "_int2digits.<locals>.inner")) : Gd w h' :=
  g.ofT (fun b o h1 _ e => hx b o h1 e) t (g.t2.but hx (by decide) fun b o vs x u e e2 e3 => (g.neCode e e2 e3).1)
theorem Gd.grow2 {w : Wd} {h h' : Heap} (g : Gd w h) (hx : Heap.ExtBut 37 h h') (t : TabOk h' 37 47 4 (Str.ofString "_digits2int.<locals>.inner")) : Gd w h' :=
  g.ofT (fun b o _ h1 e => hx b o h1 e) (g.t1.but hx (by decide) fun b o vs x u e e2 e3 => (g.neCode e e2 e3).2) t

theorem Gd.blt {w : Wd} {h : Heap} (g : Gd w h) {mg : Str → Option Value} (n : h.Ns mainGlobals mg) {P : Addr} (hP : P ≠ 4) : h.BuiltinsAt mg P := by
  obtain ⟨ob, e, h1, h2, h3⟩ := g.bm
  exact ⟨4, ob, mg_of g.X n (by rfl), by decide, by decide, fun q => hP q.symm, e, h1, h2, h3⟩

section
variable {w : Wd} {av : List Addr} {k : Nat} {h₀ : Heap} {env : Env} {σ : Sg} {R : Flow → Heap → Prop} {rest : List Stmt}
/-- a def inside a def -/
theorem Ex.nest {ω : Om} {name qual : Str} {params : Arguments} {body : List Stmt} {scope : Scope} {pos : Pos} {clos : List (Str × Addr)} {c P : Addr}
    (hcode : env.code = .ref c) (hC : codeHdIn (hd.heap_39 w.params) c P = true) (hP4 : P ≠ 4) (hPg : mainGlobals ≠ P) (hP3 : P = 30 ∨ P = 37)
    (tab : ∀ h, Gd w h → TabOk h P pos.line pos.col qual) (mk : ∀ h h', Gd w h → Heap.ExtBut P h h' → TabOk h' P pos.line pos.col qual → Gd w h')
    (hq : qualnameIn env name name = qual) (hcl : closureFor scope env = pure clos) (hst : Sto h₀ env name) (hω : ω.not name)
    (hd0 : params.defaults = []) (hk0 : params.kw_defaults = []) (ha : annTrees params none env = [])
    (h : ∀ A s E Q f c' fd, Room k A → Fs w av false h₀ env (fun y => if y = name then none else σ y) ω s.heap → Var s.heap env name (.ref f) → (∃ doc pm ctv, fd = fnX name qual params body scope clos .none .none doc pm none (.ref c') ctv) →
      s.heap.get? f = some { cls := .type "function", data := .func fd } → s.heap.CodeRec (.ref c') qual → h₀.objs.size ≤ f →
      (∀ f s', Mv av s s' → R f s'.heap → Q f s') → wpAny (model PP w.w) A (execs rest env) Q E s) :
    Ex w k false h₀ env av σ ω (.FunctionDef name params body [] none [] scope none name pos :: rest) R := fun A s E Q rm F hQ => by
  refine wpAny_execs_cons (nestDef_K hd0 hk0 ha ?_)
  rw [hq]
  obtain ⟨mg, n⟩ := F.sees.gd.g
  have g := F.sees.gd
  have h0 : h₀.objs.size ≤ s.heap.objs.size := by
    obtain ⟨m, n⟩ := F.ns
    exact Nat.le_trans F.fresh (Nat.le_of_lt n.lt)
  -- behind the making
  have go : ∀ (f : Addr) (c' : Addr) (fd : FuncData) (h' : Heap) (tk : Nat), Ext w false s.heap h' → (∀ b o, s.heap.get? b = some o → Pl o → b ≠ 30 → b ≠ 37 → b ∉ av → h'.get? b = some o) → (∃ doc pm ctv, fd = fnX name qual params body scope clos .none .none doc pm none (.ref c') ctv) →
      h'.get? f = some { cls := .type "function", data := .func fd } → h'.get? P = some (tabObj #[rawInt pos.line, rawInt pos.col, .ref c']) → h₀.objs.size ≤ f →
      wpAny (model PP w.w) A (storeName env name (.ref f)) (fun _ s'' => wpAny (model PP w.w) A (execs rest env) Q E s'') E { s with heap := h', toks := tk } := by
    intro f c' fd h' tk x kf hfd hf ht hf0
    have F' := F.extend x
    refine F'.putV (s := { s with heap := h', toks := tk }) (σ' := fun y => if y = name then none else σ y) (ω' := ω) hst.1 hst.2 (fun y d e => ?_) (fun h' hv _ hk => F'.own.keepSeq hω hv hk) fun s₂ sm sq V F₂ => ?_
    · split at e
      · cases e
      · rename_i hy; exact .inr ⟨hy, e⟩
    · have ht2 : s₂.heap.get? P = some (tabObj #[rawInt pos.line, rawInt pos.col, .ref c']) := sq _ _ ht (.fields rfl fun x u e => by cases e)
      have hrec : s₂.heap.CodeRec (.ref c') qual := by
        rcases tab _ F₂.sees.gd with t | ⟨c2, t, r⟩
        · rw [ht2] at t; cases t
        · rw [ht2] at t; cases t; exact r
      refine h A s₂ E Q f c' fd rm F₂ V hfd (sq _ _ hf ⟨fun _ _ e => (by cases e), fun _ e => (by cases e), fun _ _ _ e => (by cases e)⟩) hrec hf0 fun fl s₃ mv hr => hQ fl s₃ ?_ hr
      exact Mv.trans (⟨Same.trans ⟨_, _, rfl⟩ sm, fun b o e p h1 h2 h3 => sq b o (kf b o e p h1 h2 h3) p⟩) mv
  have notP : ∀ b, b ≠ 30 ∧ b ≠ 37 → b ≠ P := fun b hb e => by rcases hP3 with h | h <;> subst h <;> subst e <;> simp at hb
  rcases tab _ g with t | ⟨c', t, r⟩
  · refine makeFunction_K (mg := mg) hcl F.sees.glob n hcode (codeHd_of_K g.X hC) t trivial rfl hPg (g.blt n hP4) fun c' ctv doc h' tk hx hge hlt hrec htb => ?_
    have htb' : h'.get? P = some (tabObj #[rawInt pos.line, rawInt pos.col, .ref c']) := htb
    have x : Ext w false s.heap h' := ⟨fun b o hb e => hx b o (notP b (hb.resolve_left Bool.false_ne_true)) e, fun g => mk _ _ g hx (.inr ⟨c', htb', hrec⟩)⟩
    exact go _ c' _ _ tk (x.trans (.push _)) (fun b o e p h1 h2 h3 => Heap.get?_push_of_some _ (hx b o (notP b ⟨h1, h2⟩) e)) ⟨_, _, _, rfl⟩ (Heap.get?_push_size _ rfl) (Heap.get?_push_of_some _ htb') (Nat.le_trans h0 (Nat.le_trans hge (Nat.le_of_lt hlt)))
  · refine makeFunction_hit (mg := mg) (cv := .ref c') hcl F.sees.glob n hcode (codeHd_of_K g.X hC) t trivial (by simp [codeAmong, rawInt]) (g.blt n hP4) fun ctv doc h' tk hk hsz => ?_
    exact go _ c' _ _ tk (.of fun b o e => Heap.get?_push_of_some _ (hk b o e)) (fun b o e p h1 h2 h3 => Heap.get?_push_of_some _ (hk b o e)) ⟨_, _, _, rfl⟩ (Heap.get?_push_size _ rfl) (Heap.get?_push_of_some _ (hk _ _ t)) (Nat.le_trans h0 hsz)
end

/-! objects that stand for good -/
section
variable {w : Wd} {av : List Addr} {k : Nat} {q : Bool} {env : Env} {σ : Sg}
theorem Gd.up {w : Wd} {h : Heap} (g : Gd w h) {K : Frag} (hK : ∀ a o, (a, o) ∈ K → a ≠ 30 ∧ a ≠ 37 ∧ h.get? a = some o) : Gd ⟨w.w, K⟩ h := ⟨hK, g.X, g.g, g.ns, g.lim, g.bm, g.t1, g.t2⟩
theorem Gd.down {w : Wd} {h : Heap} {K : Frag} (g : Gd ⟨w.w, K⟩ h) (hK : ∀ p ∈ w.K, p ∈ K) : Gd w h := ⟨fun a o e => g.kx a o (hK _ e), g.X, g.g, g.ns, g.lim, g.bm, g.t1, g.t2⟩
theorem Kp.down {w : Wd} {s s' : Shared} {K : Frag} (x : Kp ⟨w.w, K⟩ q s s') (g : Gd ⟨w.w, K⟩ s.heap) (hK : ∀ p ∈ w.K, p ∈ K) : Kp w q s s' := by
  obtain ⟨h', tk, rfl, e⟩ := x
  exact ⟨h', tk, rfl, e.keep, fun _ => (e.gd g).down hK⟩

/-- a def that stands in the ground is entered; σf: its free names -/
theorem Cal.defK {w : Wd} {k : Nat} {q : Bool} {a : Addr} {o oc : Obj} {fd : FuncData} {body : List Stmt} {xs : List Str} {ds : List D} {d : D} {c' : Addr} {cvs : Array Value} {cu : Tok} (σf : Sg) (ho : (a, o) ∈ w.K) (hfd : o.data = .func fd) (hbody : fd.body = .stmts body)
    (hcode : fd.code = .ref c') (hoc : (c', oc) ∈ w.K) (hocd : oc.data = .fields cvs) (hcv : cvs[1]? = some (.str fd.qualname cu)) (hg : fd.globals = mainGlobals) (hbl : fd.builtins = builtinsNs) (hcell : ∀ x ∈ fd.scope.names, x.2 ≠ .cell) (hloc : ∀ x ∈ xs, fd.scope.names.lookup x = some .local ∧ (x == ("__debug__" : Str)) = false)
    (hbind : ∀ vs : List Value, vs.length = ds.length → bindArgs fd ⟨vs, []⟩ = pure (xs.zip vs))
    (hf : ∀ av h, Gv w av h → ∀ x d, σf x = some d → (x == ("__debug__" : Str)) = false ∧ fd.scope.names.lookup x = some .free ∧ (x == ("__classdict__" : Str)) = false ∧ ∃ c v, fd.closure.lookup x = some c ∧ h.IsCell c (some v) ∧ Rep av h v d)
    (h : ∀ h₀ L av, Ex w k q h₀ (callEnv fd L a) av (fun x => (sg xs ds x).or (σf x)) none body (RetD w q h₀ av d))
    (hco : autoParam (fd.scope.isCoroutine = false) PyProof.Rows.call_M_of_MD._auto_3) (hgen : autoParam (fd.scope.isGenerator = false) PyProof.Rows.call_M_of_MD._auto_3) (hk : autoParam (fd.scope.kind = .function) PyProof.Rows.call_M_of_MD._auto_3) : Cal w (k + 1) q (.ref a) ds d := fun av A s E Q vs rm g rs hQ => by
  have hz : ∀ y ∈ xs.zip vs, y.1 ∈ xs := fun y hy => (List.of_mem_zip hy).1
  refine wpAny_call (codeAny_call_def rm.dep (g.gd.kx _ _ ho).2.2 hfd g.gd.lim (by rw [hcode]; exact ⟨c', oc, cvs, cu, rfl, (g.gd.kx _ _ hoc).2.2, hocd, hcv⟩) hbody (BindsTo.of_eq (hbind vs rs.length)) hcell (fun y hy => (hloc _ (hz y hy)).1) (fun h₁ hns hkeep => ?_) hco hgen hk)
  have x1 : Ext w q s.heap h₁ := .of hkeep
  have F : Fs w av q s.heap (callEnv fd s.heap.objs.size a) (fun x => (sg xs ds x).or (σf x)) none h₁ :=
    { sees := ⟨hk, hg, hbl, g.ext x1, fun x d e => by
        cases hs : sg xs ds x with
        | some d' =>
          rw [hs] at e; cases e
          obtain ⟨v, e1, r⟩ := zip_lookup rs hs
          have hx : x ∈ xs := hz (x, v) (List.mem_reverse.mp (PySem.mem_of_lookup e1))
          exact ⟨v, ⟨(hloc x hx).2, .inl ⟨(hloc x hx).1, _, hns, e1⟩⟩, r.mono (x1.seq g.gd)⟩
        | none =>
          rw [hs] at e
          obtain ⟨h1, h2, h3, c, v, h4, h5, h6⟩ := hf av _ (g.ext x1) x d e
          exact ⟨v, ⟨h1, .inr (.inr ⟨h2, h3, c, h4, h5⟩)⟩, h6⟩⟩
      g0 := g.gd
      ext := x1
      ns := ⟨_, hns⟩
      fresh := Nat.le_refl _
      cel := fun n c e => absurd (PySem.mem_of_lookup (show fd.scope.names.lookup n = some .cell from e)) fun hm => hcell _ hm rfl
      apart := fun n n' c e => absurd (PySem.mem_of_lookup (show fd.scope.names.lookup n' = some .cell from e)) fun hm => hcell _ hm rfl
      own := trivial }
  refine h s.heap s.heap.objs.size av _ { s with heap := h₁, toks := _ } _ _ (rm.deeper _) F fun f s' sm hr => ?_
  obtain ⟨v, rfl, r, x2⟩ := hr
  obtain ⟨⟨h', tk, rfl⟩, _⟩ := sm
  exact hQ v _ r ⟨_, _, rfl, x2⟩

/-- a call of a def that stands in the ground, by a name of the frame -/
theorem Ev.calf {x : Str} {p pos : Pos} {e : Expr} {es : List Expr} {f : Addr} {o : Obj} {fd : FuncData} {ds : List D} {d : D} (hv : ∀ h, Gv w av h → Var h env x (.ref f)) (ho : (f, o) ∈ w.K) (hfd : o.data = .func fd) (ha : Evs w av k q env σ (e :: es) ds) (hc : Cal w k q (.ref f) ds d)
    (hs : autoParam (starEach (e :: es) env = (false, eval e env) :: starEach es env) PyProof.Rows.call_M_of_MD._auto_3) :
    Ev w av k q env σ (.Call (.Name x p) (e :: es) [] pos) d := fun A s E Q rm n h => by
  have V := hv _ n.gv
  refine Call_Name rfl (wpAny_Name (V.load n.kind ?_) V.1)
  have ha' := ha pos
  rw [hs] at ha' ⊢
  refine callWith_function (o := o) (fd := fd) (evalArgs_plain (ha' A s E _ rm n fun ys s₁ rs k₁ => ⟨⟨((n.kp k₁).gd.kx _ _ ho).2.2, hfd⟩, ?_⟩))
  exact hc av A s₁ E Q ys rm (n.kp k₁).gv rs fun y s₂ ry k₂ => h y s₂ ry (k₁.trans k₂)
end
theorem cap_one {P : Str → Prop} {a : Str} (h : P a) : ∀ y ∈ [a], P y := fun y hy => by rcases List.mem_cons.mp hy with rfl | hy; exact h; cases hy
theorem cap_two {P : Str → Prop} {a b : Str} (h : P a) (h' : P b) : ∀ y ∈ [a, b], P y := fun y hy => by rcases List.mem_cons.mp hy with rfl | hy; exact h; exact cap_one h' y hy
theorem cap_three {P : Str → Prop} {a b c : Str} (h : P a) (h' : P b) (h'' : P c) : ∀ y ∈ [a, b, c], P y := fun y hy => by rcases List.mem_cons.mp hy with rfl | hy; exact h; exact cap_two h' h'' y hy
theorem cap_nil {P : Str → Prop} : ∀ y ∈ ([] : List Str), P y := fun y hy => by cases hy
theorem kcons {P : Addr → Obj → Prop} {b : Addr} {p : Obj} {K : Frag} (h : P b p) (t : ∀ a o, (a, o) ∈ K → P a o) : ∀ a o, (a, o) ∈ (b, p) :: K → P a o := fun a o hm => (List.mem_cons.mp hm).elim (fun e => by cases e; exact h) (t a o)
end Mine

set_option maxRecDepth 100000
set_option maxHeartbeats 1000000
namespace Mine

/-! the middle of a stretch -/
theorem mid_pos {l r M : Nat} (h : l < r) (hr : l + 1 ≠ r) (hM : (l + r) / 2 = M) : l < M ∧ M < r := by
  subst hM
  have h2 : l + 2 ≤ r := Nat.lt_of_le_of_ne h hr
  refine ⟨(Nat.le_div_iff_mul_le (by decide)).mpr ?_, Nat.div_lt_of_lt_mul ?_⟩
  · rw [Nat.succ_mul, Nat.mul_two, Nat.add_assoc]; exact Nat.add_le_add_left h2 l
  · rw [Nat.two_mul]; exact Nat.add_lt_add_right h r
theorem mid_cast (l r : Nat) : ((l : Int) + (r : Int)) / 2 = (((l + r) / 2 : Nat) : Int) := by rw [Int.natCast_ediv, Int.natCast_add]; rfl
theorem mid_le {l M r m : Nat} (h1 : r - l ≤ m + 1) (h : l < M) (h' : M < r) : M - l ≤ m ∧ r - M ≤ m := ⟨Nat.le_of_lt_succ (Nat.lt_of_lt_of_le (Nat.sub_lt_sub_right (Nat.le_of_lt h) h') h1), Nat.le_of_lt_succ (Nat.lt_of_lt_of_le (Nat.sub_lt_sub_left (Nat.lt_trans h h') h) h1)⟩
theorem mid_sub1 {l M r : Nat} (h' : M < r) : M - l ≤ r - l := Nat.sub_le_sub_right (Nat.le_of_lt h') l
theorem mid_sub2 {l M r : Nat} (h : l < M) : r - M ≤ r - l := Nat.sub_le_sub_left (Nat.le_of_lt h) r
theorem mid_add {l M r : Nat} (h : l < M) (h' : M < r) : M - l + (r - M) = r - l := by rw [Nat.add_comm]; exact Nat.sub_add_sub_cancel (Nat.le_of_lt h') (Nat.le_of_lt h)
theorem mid_none {l r : Nat} (h1 : r - l ≤ 0) (h : l < r) : False := Nat.not_le.mpr h (Nat.le_of_sub_eq_zero (Nat.le_zero.mp h1))
theorem eq_succ {l r : Nat} (h : (l : Int) + 1 = (r : Int)) : r = l + 1 := (Int.ofNat_inj.mp (show ((l + 1 : Nat) : Int) = (r : Int) from h)).symm
theorem cast_lt63 {l c : Nat} (h : l < c) (hc : c ≤ 1000) : (l : Int) < 2 ^ 63 := Int.lt_trans (Int.ofNat_lt.mpr (Nat.lt_of_lt_of_le h hc)) (by decide)
theorem abs_sub {l M c : Nat} (h : M ≤ c) (hc : c ≤ 1000) (h' : l < M) : ((M : Int) - (l : Int)).natAbs < 2 ^ 64 := by
  rw [← Int.ofNat_sub (Nat.le_of_lt h')]
  exact (Nat.lt_of_le_of_lt (Nat.le_trans (Nat.sub_le _ _) (Nat.le_trans h hc)) (by decide) : M - l < 2 ^ 64)
theorem cast_le6 {S : Nat} (h : S ≤ 9000) : (S : Int) ≤ 1000000 := Int.le_trans (Int.ofNat_le.mpr h) (by decide)

/-! plain: digits -/
noncomputable def dval (n : Nat) : List Int → Int
  | [] => 0
  | d :: r => d + 2 ^ n * dval n r
theorem dval_append (n : Nat) : ∀ xs ys : List Int, dval n (xs ++ ys) = dval n xs + 2 ^ (n * xs.length) * dval n ys
  | [], ys => by simp [dval]
  | d :: r, ys => by
    rw [List.cons_append, dval, dval, dval_append n r ys, List.length_cons, Nat.mul_succ, Nat.add_comm, Int.pow_add, Int.mul_add, Int.mul_assoc]
    omega
theorem dval_bd {n : Nat} : ∀ {xs : List Int}, (∀ d ∈ xs, 0 ≤ d ∧ d < 2 ^ n) → 0 ≤ dval n xs ∧ dval n xs < 2 ^ (n * xs.length)
  | [], _ => by simp [dval]
  | d :: r, h => by
    obtain ⟨h1, h2⟩ := h d (.head _)
    obtain ⟨h3, h4⟩ := dval_bd fun x hx => h x (.tail _ hx)
    have hp : (0 : Int) < 2 ^ n := Int.pow_pos (by decide)
    have h5 : 0 ≤ (2 : Int) ^ n * dval n r := Int.mul_nonneg (Int.le_of_lt hp) h3
    refine ⟨by rw [dval]; omega, ?_⟩
    rw [dval, List.length_cons, Nat.mul_succ, Nat.add_comm, Int.pow_add]
    have h6 : (2 : Int) ^ n * (dval n r + 1) ≤ 2 ^ n * 2 ^ (n * r.length) := Int.mul_le_mul_of_nonneg_left (by omega) (Int.le_of_lt hp)
    rw [Int.mul_add, Int.mul_one] at h6
    omega
noncomputable def seg (xs : List Int) (l r : Nat) : List Int := (xs.drop l).take (r - l)
theorem seg_len {xs : List Int} {l r : Nat} (hr : r ≤ xs.length) : (seg xs l r).length = r - l := by
  unfold seg; rw [List.length_take, List.length_drop]; exact Nat.min_eq_left (Nat.sub_le_sub_right hr l)
theorem seg_one {xs : List Int} {l : Nat} {d : Int} (h : xs[l]? = some d) : seg xs l (l + 1) = [d] := by
  unfold seg
  obtain ⟨hl, e⟩ := List.getElem?_eq_some_iff.mp h
  rw [Nat.add_sub_cancel_left, List.drop_eq_getElem_cons hl, e]; rfl
theorem seg_cut {xs : List Int} {l m r : Nat} (h1 : l ≤ m) (h2 : m ≤ r) : seg xs l r = seg xs l m ++ seg xs m r := by
  unfold seg
  have e : r - l = (m - l) + (r - m) := by rw [Nat.add_comm]; exact (Nat.sub_add_sub_cancel h2 h1).symm
  rw [e, List.take_add, List.drop_drop]
  have : l + (m - l) = m := Nat.add_sub_cancel' h1
  rw [this]
theorem seg_all (xs : List Int) : seg xs 0 xs.length = xs := by simp [seg]
theorem seg_sub {xs : List Int} {l r : Nat} : ∀ d ∈ seg xs l r, d ∈ xs := fun d h => List.mem_of_mem_drop (List.mem_of_mem_take h)

noncomputable def intsD (xs : List Int) : D := .list (xs.map .int)
theorem natAbs_lt {a : Int} {n : Nat} (h0 : 0 ≤ a) (h : a < 2 ^ n) : a.natAbs < 2 ^ n := by
  have : (a.natAbs : Int) < ((2 ^ n : Nat) : Int) := by rw [Int.natAbs_of_nonneg h0]; push_cast; exact h
  exact Int.ofNat_lt.mp this

theorem Var.cell {h : Heap} {env : Env} {x : Str} {v : Value} {c : Addr} (V : Var h env x v) (hk : env.kindOf x = some .cell) (hc : env.cells.lookup x = some c) : h.IsCell c (some v) := by
  rcases V.2 with ⟨a, _⟩ | ⟨a, c', b, d⟩ | ⟨a, _⟩
  · rw [hk] at a; cases a
  · rw [hc] at b; cases b; exact d
  · rw [hk] at a; cases a

theorem hcell_of {l : List (Str × NameKind)} (h : l.all (fun x => !(x.2 == .cell)) = true) : ∀ x ∈ l, x.2 ≠ .cell := fun x hx e => by
  have := List.all_eq_true.mp h x hx
  rw [e] at this; cases this
theorem Rep.listInv {av : List Addr} {h : Heap} {v : Value} {ds : List D} (r : Rep av h v (.list ds)) : ∃ a vs n, v = .ref a ∧ a ∉ av ∧ IsL h a vs.toArray n ∧ Reps av h vs ds := by
  cases r with | list h1 h2 h3 => exact ⟨_, _, _, rfl, h1, h2, h3⟩
section
variable {w : Wd} {k : Nat}
theorem cal_d2i {xs : List Int} {n : Nat} (hn : n * xs.length ≤ 9000) (hl : xs.length ≤ 1000) (hb : ∀ d ∈ xs, 0 ≤ d ∧ d < 2 ^ n) : Cal w (k + xs.length + 4) false (.ref 42) [intsD xs, .int n] (.int (dval n xs)) := by
  refine Cal.defC (k := k + xs.length + 3) (xs := [Str.ofString "digits", Str.ofString "n"]) (by rfl) (by rfl) (by rfl) (by rfl) (by rfl) (by rfl) (by rfl) (cap_two ⟨.inr ⟨rfl, fun n => rfl⟩, by decide⟩ ⟨.inr ⟨rfl, fun n => rfl⟩, by decide⟩) (fun vs hv => ?_) (fun h₀ av hav => ?_)
  · obtain ⟨_, _, rfl⟩ := len2 hv
    rfl
  · refine Ex.nest (c := 41) (P := 37) (qual := Str.ofString "_digits2int.<locals>.inner") (clos := [(Str.ofString "n", h₀.objs.size + 1 + 1), (Str.ofString "inner", h₀.objs.size + 1 + 1 + 1), (Str.ofString "digits", h₀.objs.size + 1)]) rfl (by rfl) (by decide) (by decide) (.inr rfl)
      (fun h g => g.t2) (fun h h' g hx t => g.grow2 hx t) (by rfl) (by rfl) ⟨.inr ⟨rfl, _, rfl, Nat.le_add_right _ 3⟩, by decide⟩ (by intro _ e; cases e) rfl rfl rfl ?_
    intro A s E Q f c' fd rm F V hfd hf hrec hf0 hQ
    obtain ⟨doc, pm, ctv, rfl⟩ := hfd
    obtain ⟨vd, Vd, rd⟩ := F.sees.var (Str.ofString "digits") (intsD xs) rfl
    obtain ⟨vn, Vn, rn⟩ := F.sees.var (Str.ofString "n") (.int n) rfl
    obtain ⟨od, ed, dd⟩ := Vd.cell (c := h₀.objs.size + 1) rfl rfl
    obtain ⟨on, en, dn⟩ := Vn.cell (c := h₀.objs.size + 1 + 1) rfl rfl
    obtain ⟨oi, ei, di⟩ := V.cell (c := h₀.objs.size + 1 + 1 + 1) rfl rfl
    obtain ⟨c2, oc, cvs, cu, ec, hoc, hocd, hcv⟩ := hrec
    cases ec
    cases rn with | int _ tn =>
    obtain ⟨la, lvs, ln, rfl, hla, ll, lr⟩ := rd.listInv
    generalize hfo : ({ cls := .type "function", data := .func (fnX (Str.ofString "inner") _ _ _ _ _ _ _ _ _ _ _ _) } : Obj) = fo at hf
    have hints := lr.ints
    obtain ⟨lo, ll', hlo, hlf⟩ : ∃ lo, s.heap.get? la = some lo ∧ (∀ h : Heap, h.get? la = some lo → IsL h la lvs.toArray ln) ∧ ∀ vs, lo.data ≠ .fields vs := ⟨_, ll, fun h e => e, fun vs e => by cases e⟩
    let K' : Frag := (f, fo) :: (c', oc) :: (h₀.objs.size + 1, od) :: (h₀.objs.size + 1 + 1, on) :: (h₀.objs.size + 1 + 1 + 1, oi) :: (la, lo) :: w.K
    have g := F.sees.gd
    have fin : ∀ a o, s.heap.get? a = some o → (∀ vs, o.data ≠ .fields vs) → a ≠ 30 ∧ a ≠ 37 ∧ s.heap.get? a = some o := fun a o e hd => ⟨(g.ne e hd).1, (g.ne e hd).2, e⟩
    have hK : ∀ a o, (a, o) ∈ K' → a ≠ 30 ∧ a ≠ 37 ∧ s.heap.get? a = some o := kcons (fin _ _ hf fun vs e => by rw [← hfo] at e; cases e) (kcons ⟨(g.neCode hoc hocd hcv).1, (g.neCode hoc hocd hcv).2, hoc⟩ (kcons (fin _ _ ed fun vs e => by rw [dd] at e; cases e) (kcons (fin _ _ en fun vs e => by rw [dn] at e; cases e) (kcons (fin _ _ ei fun vs e => by rw [di] at e; cases e) (kcons (fin _ _ ll' hlf) g.kx)))))
    have g' : Gd ⟨w.w, K'⟩ s.heap := g.up hK
    have pl : ∀ {b o}, b ∈ av → s.heap.get? b = some o → Pl o := fun ha e => by
      obtain ⟨_, o', e', hp⟩ := F.sees.gv.own _ ha
      rw [e] at e'; cases e'; exact hp
    have kn0 : ∀ a o, (a, o) ∈ K' → a ∉ av := kcons (fun ha => absurd (hav _ ha) (Nat.not_lt.mpr hf0)) (kcons (fun ha => (pl ha hoc).2.2 _ _ _ hocd hcv) (kcons (fun ha => (pl ha ed).2.1 _ dd) (kcons (fun ha => (pl ha en).2.1 _ dn) (kcons (fun ha => (pl ha ei).2.1 _ di) (kcons hla fun a o hm ha => F.sees.gv.kn a ha o hm)))))
    have kn' : ∀ a ∈ av, ∀ o, (a, o) ∉ K' := fun a ha o hm => kn0 a o hm ha
    have mF : (f, fo) ∈ K' := .head _
    have mC : (c', oc) ∈ K' := .tail _ (.head _)
    have mD : (h₀.objs.size + 1, od) ∈ K' := .tail _ (.tail _ (.head _))
    have mN : (h₀.objs.size + 1 + 1, on) ∈ K' := .tail _ (.tail _ (.tail _ (.head _)))
    have mI : (h₀.objs.size + 1 + 1 + 1, oi) ∈ K' := .tail _ (.tail _ (.tail _ (.tail _ (.head _))))
    have mL : (la, lo) ∈ K' := .tail _ (.tail _ (.tail _ (.tail _ (.tail _ (.head _)))))
    have hsub : ∀ p ∈ w.K, p ∈ K' := fun p hp => .tail _ (.tail _ (.tail _ (.tail _ (.tail _ (.tail _ hp)))))
    clear_value K'
    have inner : ∀ m l r, r - l ≤ m → l < r → r ≤ xs.length → Cal ⟨w.w, K'⟩ (k + m + 2) true (.ref f) [.int (l : Nat), .int (r : Nat)] (.int (dval n (seg xs l r))) := by
      intro m
      induction m with
      | zero => intro l r h1 h2; exact (mid_none h1 h2).elim
      | succ m ih =>
        intro l r h1 h2 h3
        refine Cal.defK (k := k + m + 2) (xs := [Str.ofString "L", Str.ofString "R"]) (fun x => if x = Str.ofString "digits" then some (intsD xs) else if x = Str.ofString "n" then some (.int n) else none) mF (by rw [← hfo]) rfl rfl mC hocd hcv rfl rfl (hcell_of rfl) (cap_two ⟨rfl, by decide⟩ ⟨rfl, by decide⟩) (fun vs hv => ?_) (fun av₁ h₁ g₁ x d e => ?_) fun h₁ L av₁ => ?_
        · obtain ⟨_, _, rfl⟩ := len2 hv
          rfl
        · split at e
          · cases e; rename_i hx; subst hx
            exact ⟨by decide, rfl, by decide, _, _, rfl, ⟨od, (g₁.gd.kx _ _ mD).2.2, dd⟩, .list (fun hm => g₁.kn _ hm _ mL) (hlo _ (g₁.gd.kx _ _ mL).2.2) (reps_of_ints hints)⟩
          · split at e
            · cases e; rename_i hx; subst hx
              exact ⟨by decide, rfl, by decide, _, _, rfl, ⟨on, (g₁.gd.kx _ _ mN).2.2, dn⟩, .int _ _⟩
            · cases e
        · have hI : ∀ h, Gd ⟨w.w, K'⟩ h → h.IsCell (h₀.objs.size + 1 + 1 + 1) (some (.ref f)) := fun h g₁ => ⟨oi, (g₁.kx _ _ mI).2.2, di⟩
          refine Ex.iff (Tr.cmp (Ev.bin (Ev.name rfl) Ev.int Bin.add) (Ev.name rfl) Cmp.eqI) (fun hc => ?_) (fun hc => ?_)
          · have hr : r = l + 1 := eq_succ (beq_iff_eq.mp hc)
            subst hr
            have hx : xs[l]? = some xs[l] := by simp [show l < xs.length from h3]
            rw [seg_one hx]
            refine Ex.ret (Ev.sub (Ev.name rfl) (Ev.name rfl) (Itm.list (d := .int xs[l]) (Int.natCast_nonneg _) ?_ (cast_lt63 h3 hl))) fun v hp r F => ⟨v, rfl, ?_, F.ext⟩
            · rw [Int.toNat_natCast, List.getElem?_map, hx]; rfl
            · rw [show dval n [xs[l]] = xs[l] by simp [dval]]; exact r
          · have hr : l + 1 ≠ r := fun e => by subst e; simp at hc
            have hmid : ((l : Int) + (r : Int)) / 2 ^ (1 : Int).toNat = ((l + r) / 2 : Nat) := by
              exact mid_cast l r
            generalize hM : (l + r) / 2 = M at hmid
            obtain ⟨hM1, hM2⟩ := mid_pos h2 hr hM
            obtain ⟨le1, le2⟩ := mid_le h1 hM1 hM2
            have hsh : ((M : Int) - (l : Int)) * (n : Int) = (((M - l) * n : Nat) : Int) := by
              rw [Int.natCast_mul, Int.natCast_sub (Nat.le_of_lt hM1)]
            have len1 := seg_len (xs := xs) (l := l) (r := M) (Nat.le_trans (Nat.le_of_lt hM2) h3)
            have len2 := seg_len (xs := xs) (l := M) (r := r) h3
            have bd2 := dval_bd (n := n) (xs := seg xs M r) fun d hd => hb d (seg_sub d hd)
            have hbig : n * (seg xs M r).length ≤ 10000 := by
              rw [len2]; exact Nat.le_trans (Nat.mul_le_mul_left _ (Nat.le_trans (Nat.sub_le _ _) h3)) (Nat.le_trans hn (by decide))
            have hval : dval n (seg xs M r) * 2 ^ (((M - l) * n : Nat) : Int).toNat + dval n (seg xs l M) = dval n (seg xs l r) := by
              rw [seg_cut (xs := xs) (Nat.le_of_lt hM1) (Nat.le_of_lt hM2), dval_append, len1, Int.toNat_natCast, Int.add_comm, Int.mul_comm, Nat.mul_comm]
            rw [← hval]
            refine Ex.nil fun hp F => ⟨_, _, F, ?_⟩
            refine Ex.assign (d := .int (M : Nat)) (by rw [← hmid]; exact Ev.bin (Ev.bin (Ev.name rfl) (Ev.name rfl) Bin.add) Ev.int (Bin.shr (by decide))) ⟨.inl rfl, by decide⟩ ?_
            refine Ex.assign (d := .int ((M - l) * n : Nat)) (by rw [← hsh]; exact Ev.bin (Ev.bin (Ev.name rfl) (Ev.name rfl) Bin.sub) (Ev.name rfl) (Bin.mul (.inl (abs_sub (Nat.le_trans (Nat.le_of_lt hM2) h3) hl hM1)))) ⟨.inl rfl, by decide⟩ ?_
            refine Ex.retD (Ev.bin (Ev.bin (Ev.calf (fun h g₁ => ⟨by decide, .inr (.inr ⟨rfl, by decide, _, rfl, hI _ g₁.gd⟩)⟩) mF (by rw [← hfo]) (Evs.cons (Ev.name rfl) (Evs.cons (Ev.name rfl) .nil)) (ih M r le2 hM2 h3)) (Ev.name rfl) (Bin.shl (Int.natCast_nonneg _) ?_ ?_)) (Ev.calf (fun h g₁ => ⟨by decide, .inr (.inr ⟨rfl, by decide, _, rfl, hI _ g₁.gd⟩)⟩) mF (by rw [← hfo]) (Evs.cons (Ev.name rfl) (Evs.cons (Ev.name rfl) .nil)) (ih l M le1 hM1 (Nat.le_trans (Nat.le_of_lt hM2) h3))) Bin.add)
            · have : (M - l) * n ≤ 9000 := Nat.le_trans (Nat.mul_le_mul_right _ (Nat.le_trans (Nat.sub_le _ _) (Nat.le_trans (Nat.le_of_lt hM2) h3))) (Nat.le_trans (Nat.le_of_eq (Nat.mul_comm _ _)) hn)
              exact cast_le6 this
            · exact Nat.lt_of_lt_of_le (natAbs_lt bd2.1 bd2.2) (Nat.pow_le_pow_right (by decide) hbig)
    have n' : Sees ⟨w.w, K'⟩ av s.heap _ _ := ⟨F.sees.kind, F.sees.glob, F.sees.blt, ⟨g', F.sees.gv.own, kn'⟩, F.sees.var⟩
    have hI : ∀ h, Gd ⟨w.w, K'⟩ h → h.IsCell (h₀.objs.size + 1 + 1 + 1) (some (.ref f)) := fun h g₁ => ⟨oi, (g₁.kx _ _ mI).2.2, di⟩
    have hlen : (xs.map D.int).length = xs.length := List.length_map _
    refine wpAny_execs_cons (wpAny_Return_some (Ev.ite (q := true) (w := ⟨w.w, K'⟩) (d := .int (dval n xs)) (Tr.val (d := intsD xs) (Ev.name rfl) (by show decide _ = true; rw [hlen]; exact decide_eq_true (by omega))) (fun ht => ?_) (fun ht => ?_) A s E _ rm n' fun v s₁ r k₁ => ?_))
    · have := inner (xs.length + 1) 0 xs.length (by omega) ?_ (Nat.le_refl _)
      rw [seg_all] at this
      refine Ev.calf (fun h g₁ => ⟨by decide, .inr (.inl ⟨rfl, _, rfl, hI _ g₁.gd⟩)⟩) mF (by rw [← hfo]) (Evs.cons Ev.int (Evs.cons (Ev.calb boot_len (Evs.cons (Ev.name rfl) .nil) (Cal.len (xs := xs.map D.int) (by rw [hlen]; omega))) .nil)) (by rw [hlen]; exact this)
      cases xs with
      | nil => cases ht
      | cons => simp
    · cases xs with
      | nil => exact Ev.int
      | cons => cases ht
    · have kd := k₁.down g' hsub
      exact hQ _ _ kd.mv ⟨v, rfl, r, (F.extend (kd.weak (q := false)).ext).ext⟩
end
end Mine

set_option maxRecDepth 100000
set_option maxHeartbeats 1000000
namespace Mine

/-! plain: the digits of a number -/
noncomputable def digs (n : Nat) : Nat → Int → List Int
  | 0, _ => []
  | c + 1, x => x % 2 ^ n :: digs n c (x / 2 ^ n)
theorem digs_len (n : Nat) : ∀ c x, (digs n c x).length = c
  | 0, _ => rfl
  | c + 1, x => by rw [digs, List.length_cons, digs_len n c]
theorem pow_pos2 (n : Nat) : (0 : Int) < 2 ^ n := Int.pow_pos (by decide)
theorem digs_add (n : Nat) : ∀ (a b : Nat) (x : Int), digs n (a + b) x = digs n a (x % 2 ^ (a * n)) ++ digs n b (x / 2 ^ (a * n))
  | 0, b, x => by simp [digs]
  | a + 1, b, x => by
    rw [show a + 1 + b = (a + b) + 1 from Nat.add_right_comm a 1 b, digs, digs, digs_add n a b, List.cons_append]
    have e : (2 : Int) ^ ((a + 1) * n) = 2 ^ n * 2 ^ (a * n) := by rw [Nat.succ_mul, Nat.add_comm, Int.pow_add]
    have h1 : x % 2 ^ ((a + 1) * n) % 2 ^ n = x % 2 ^ n := by
      rw [e]; exact Int.emod_emod_of_dvd _ (Int.dvd_mul_right _ _)
    have h2 : x % 2 ^ ((a + 1) * n) / 2 ^ n = x / 2 ^ n % 2 ^ (a * n) := by
      rw [e, Int.emod_def x, Int.mul_assoc, Int.sub_mul_ediv_left _ _ (Int.ne_of_gt (pow_pos2 n)), Int.emod_def (x / 2 ^ n), Int.ediv_ediv_of_nonneg (Int.le_of_lt (pow_pos2 n))]
    have h3 : x / 2 ^ n / 2 ^ (a * n) = x / 2 ^ ((a + 1) * n) := by
      rw [e, Int.ediv_ediv_of_nonneg (Int.le_of_lt (pow_pos2 n))]
    rw [h1, h2, h3]
theorem digs_bd (n : Nat) : ∀ c x, ∀ d ∈ digs n c x, 0 ≤ d ∧ d < 2 ^ n
  | 0, _, _, h => by cases h
  | c + 1, x, d, h => by
    rcases List.mem_cons.mp h with rfl | h
    · exact ⟨Int.emod_nonneg _ (Int.ne_of_gt (pow_pos2 n)), Int.emod_lt_of_pos _ (pow_pos2 n)⟩
    · exact digs_bd n c _ d h
theorem and_nat (x y : Nat) : Builtin.bitAnd (x : Int) (y : Int) = ((x &&& y : Nat) : Int) := by
  unfold Builtin.bitAnd
  rw [decide_eq_true (Int.natCast_nonneg x), decide_eq_true (Int.natCast_nonneg y)]; rfl
theorem nat_high (x s : Nat) : x &&& (x / 2 ^ s * 2 ^ s) = x / 2 ^ s * 2 ^ s := by
  apply Nat.eq_of_testBit_eq
  intro i
  rw [Nat.testBit_and, Nat.testBit_mul_two_pow]
  by_cases h : s ≤ i
  · rw [Nat.testBit_div_two_pow, show i - s + s = i by omega]; simp [h]
  · simp [h]
theorem low_xor (x s : Nat) : Builtin.bitXor (x : Int) ((x : Int) / 2 ^ s * 2 ^ s) = (x : Int) % 2 ^ s := by
  have e : (x : Int) / 2 ^ s * 2 ^ s = ((x / 2 ^ s * 2 ^ s : Nat) : Int) := by push_cast; rfl
  rw [bitXor_and, e, and_nat, nat_high, ← e, Int.emod_def]
  rw [Int.mul_comm (2 ^ s)]
  omega

/-! rules -/
section
variable {w : Wd} {av : List Addr} {k : Nat} {q : Bool} {h₀ : Heap} {env : Env} {σ : Sg} {R : Flow → Heap → Prop} {rest : List Stmt}

/-- the expression makes a list of its own -/
noncomputable def EvN (w : Wd) (av : List Addr) (k : Nat) (q : Bool) (env : Env) (σ : Sg) (e : Expr) (ds : List D) : Prop :=
  ∀ (A : Around) (s : Shared) (E : Value → Shared → Prop) (Q : Value → Shared → Prop), Room k A → Sees w av s.heap env σ →
    (∀ a vs n s₂ s', Kp w q s s₂ → s₂.heap.objs.size ≤ a → IsL s'.heap a vs.toArray n → Reps av s₂.heap vs ds → Kp w q s₂ s' → Q (.ref a) s') → wpAny (model PP w.w) A (eval e env) Q E s

theorem EvN.mul {l r : Expr} {pos : Pos} {x : D} {n : Int} (hl : Ev w av k q env σ l (.list [x])) (hr : Ev w av k q env σ r (.int n)) (h0 : 0 ≤ n) (h1 : n ≤ 1000000) : EvN w av k q env σ (.BinOp l .Mult r pos) (List.replicate n.toNat x) := fun A s E Q rm n₀ h =>
  wpAny_BinOp (hl A s E _ rm n₀ fun v s₁ rv k₁ => hr A s₁ E _ rm (n₀.kp k₁) fun u s₂ ru k₂ => mulNew h0 h1 rm ((n₀.kp k₁).kp k₂).gv (rv.mono (k₂.ext.seq (n₀.kp k₁).gd)) ru fun c vs m s₃ hn hl' rs k₃ => h c vs m s₂ s₃ (k₁.trans k₂) hn hl' rs k₃.weak)

theorem Ex.newV {x : Str} {px pos : Pos} {e : Expr} {ds : List D} (he : EvN w av k q env σ e ds) (hx : Sto h₀ env x) (h : ∀ a, a ∉ av → Ex w k q h₀ env (a :: av) (fun y => if y = x then none else σ y) (some (x, a, ds)) rest R) (hs : autoParam (swapsWith e (some (.Name x px)) pos.line env = pure false) PyProof.Rows.call_M_of_MD._auto_3) :
    Ex w k q h₀ env av σ none (.Assign [.Name x px] e pos :: rest) R := fun A s E Q rm F hQ => by
  refine wpAny_execs_cons (wpAny_Assign_Name (he A s E _ rm F.sees fun a vs n s₀ s₁ k₀ hle hg rs k₁ => ?_) hs)
  have F₀ := F.extend k₀.ext
  have x1 := k₁.ext
  have F₁ := F₀.extend x1
  have hn : s₀.heap.get? a = none := Heap.get?_none_of_le hle
  have h0 : h₀.objs.size ≤ a := by
    obtain ⟨m, nn⟩ := F₀.ns
    exact Nat.le_trans (Nat.le_trans F₀.fresh (Nat.le_of_lt nn.lt)) hle
  have ne : 142 ≤ a := Nat.le_trans F₀.sees.gd.size hle
  have F₂ : Fs w (a :: av) q h₀ env σ none s₁.heap :=
    { F₁ with
      sees := ⟨F.sees.kind, F.sees.glob, F.sees.blt, ⟨F₁.sees.gd, fun b hb => (List.mem_cons.mp hb).elim (fun e => e ▸ ⟨ne, _, hg, .seq rfl⟩) (F₁.sees.gv.own b), fun b hb => (List.mem_cons.mp hb).elim (fun e => e ▸ F₀.sees.gd.kfree hn) (F₁.sees.gv.kn b)⟩, fun y d e => by
        obtain ⟨v, b, c⟩ := F₀.sees.var y d e
        exact ⟨v, b.ext F₀.sees.gd x1, (c.more hn).mono (x1.seq F₀.sees.gd)⟩⟩
      own := trivial }
  exact F₂.put (s := s₁) (x := x) (σ' := fun y => if y = x then none else σ y) (ω' := some (x, a, ds)) hx.1 hx.2
    (fun y d e => by split at e <;> first | cases e | exact .inr ⟨by assumption, e⟩)
    (fun h' _ hv sq => ⟨.head _, h0, hv, vs, n, sq _ _ hg (.seq rfl), ((rs.more hn).mono (x1.seq F₀.sees.gd)).mono fun b o it m _ e hd => sq b o e (.seq hd)⟩)
    fun s₂ sm sq F₃ => h _ (F₀.sees.gv.notIn hn) A s₂ E Q rm F₃ fun f s₃ sm' hr => hQ f s₃ ⟨((k₀.same.trans k₁.same).trans sm).trans sm'.1, fun b o e p h1 h2 h3 => sm'.2 b o (sq b o (x1.keep b o (.inr ⟨h1, h2⟩) (k₀.ext.keep b o (.inr ⟨h1, h2⟩) e)) p) p h1 h2 (fun hb => (List.mem_cons.mp hb).elim (fun e' => by have := k₀.ext.keep b o (.inr ⟨h1, h2⟩) e; rw [e', hn] at this; cases this) h3)⟩ hr
end
end Mine

set_option maxRecDepth 100000
set_option maxHeartbeats 1000000
namespace Mine

/-! plain: a stretch of a list is written -/
noncomputable def put (ds : List Int) (l : Nat) (ys : List Int) : List Int := ds.take l ++ ys ++ ds.drop (l + ys.length)
theorem put_len {ds ys : List Int} {l : Nat} (h : l + ys.length ≤ ds.length) : (put ds l ys).length = ds.length := by
  rw [put, List.length_append, List.length_append, List.length_take, List.length_drop, Nat.min_eq_left (Nat.le_trans (Nat.le_add_right _ _) h)]
  first | exact Nat.add_sub_cancel' h | (rw [← Nat.add_assoc]; exact Nat.add_sub_cancel' h)
theorem put_put {ds ys zs : List Int} {l : Nat} (h : l + ys.length + zs.length ≤ ds.length) : put (put ds l ys) (l + ys.length) zs = put ds l (ys ++ zs) := by
  have e1 : (ds.take l ++ ys).length = l + ys.length := by rw [List.length_append, List.length_take, Nat.min_eq_left (Nat.le_trans (Nat.le_trans (Nat.le_add_right _ _) (Nat.le_add_right _ _)) h)]
  unfold put
  rw [List.take_append_of_le_length (Nat.le_of_eq e1.symm), ← e1, List.take_length, List.drop_append, List.drop_eq_nil_of_le (Nat.le_add_right _ _), List.nil_append, Nat.add_sub_cancel_left, List.drop_drop, e1]
  simp [List.append_assoc, Nat.add_assoc]
theorem put_one {ds : List Int} {l : Nat} {x : Int} (h : l < ds.length) : put ds l [x] = ds.set l x := by
  rw [List.set_eq_take_append_cons_drop, if_pos h, put]; simp
theorem put_all {ds ys : List Int} (h : ds.length = ys.length) : put ds 0 ys = ys := by
  simp [put, ← h]
theorem ints_set {x : Int} {t : Tok} : ∀ {vs : List Value} {ds : List Int} {l : Nat}, IntsAre vs ds → IntsAre (vs.set l (.int x t)) (ds.set l x)
  | _, _, _, .nil => by simpa using IntsAre.nil
  | _, _, 0, .cons n u r => .cons _ _ r
  | _, _, l + 1, .cons n u r => .cons _ _ (ints_set r)
theorem ints_len : ∀ {vs : List Value} {ds : List Int}, IntsAre vs ds → vs.length = ds.length
  | _, _, .nil => rfl
  | _, _, .cons _ _ r => congrArg Nat.succ (ints_len r)

/-! rules -/
/-- all stands but one list -/
structure Chg (w : Wd) (L : Addr) (h h' : Heap) : Prop where
  keep : ∀ b o, b ≠ L → h.get? b = some o → h'.get? b = some o
  gd : Gd w h → Gd w h'
theorem Chg.of {w : Wd} {L : Addr} {h h' : Heap} (x : Ext w true h h') : Chg w L h h' := ⟨fun b o _ e => x.all b o e, x.gd⟩
theorem Chg.trans {w : Wd} {L : Addr} {h h' h'' : Heap} (x : Chg w L h h') (y : Chg w L h' h'') : Chg w L h h'' := ⟨fun b o hb e => y.keep b o hb (x.keep b o hb e), fun g => y.gd (x.gd g)⟩
theorem Chg.gv {w : Wd} {L : Addr} {h h' : Heap} {av : List Addr} {it : Array Value} {n : Nat} (c : Chg w L h h') (g : Gv w av h) (l : IsL h' L it n) : Gv w av h' :=
  ⟨c.gd g.gd, fun a ha => by
    obtain ⟨h1, o, e, hp⟩ := g.own a ha
    by_cases hb : a = L
    · subst hb; exact ⟨h1, _, l, .seq rfl⟩
    · exact ⟨h1, o, c.keep a o hb e, hp⟩, g.kn⟩
theorem Sees.chg {w : Wd} {L : Addr} {h h' : Heap} {av : List Addr} {env : Env} {σ : Sg} {it it' : Array Value} {n n' : Nat} (x : Sees w av h env σ) (c : Chg w L h h') (hL : L ∈ av) (l : IsL h L it n) (l' : IsL h' L it' n') : Sees w av h' env σ where
  kind := x.kind
  glob := x.glob
  blt := x.blt
  gv := c.gv x.gv l'
  var := fun y d e => by
    obtain ⟨v, V, r⟩ := x.var y d e
    have cell : ∀ {a : Addr} {v : Option Value}, h.IsCell a v → h'.IsCell a v := fun {a v} hc => by
      obtain ⟨o, e, hd⟩ := hc
      exact ⟨o, c.keep _ _ (fun q => by subst q; rw [l] at e; cases e; cases hd) e, hd⟩
    refine ⟨v, ⟨V.1, ?_⟩, r.mono fun a o it n ha e _ => c.keep a o (fun q => ha (q ▸ hL)) e⟩
    rcases V.2 with ⟨a, m, b, c'⟩ | ⟨a, c', b, d⟩ | ⟨a, a', c', b, d⟩
    · refine .inl ⟨a, m, ?_, c'⟩
      obtain ⟨o, es, ep, e, hd, r⟩ := b
      exact ⟨o, es, ep, c.keep _ _ (fun q => by rw [q, l] at e; cases e; cases hd) e, hd, r⟩
    · exact .inr (.inl ⟨a, c', b, cell d⟩)
    · exact .inr (.inr ⟨a, a', c', b, cell d⟩)

section
variable {w : Wd} {av : List Addr} {k : Nat} {q : Bool} {env : Env} {σ : Sg} {A : Around} {s : Shared} {E : Value → Shared → Prop} {Q : Value → Shared → Prop}
theorem callStd {x : Str} {p pos : Pos} {e : Expr} {es : List Expr} {f : Addr} {o : Obj} {fd : FuncData} {ds : List D} (V : Var s.heap env x (.ref f)) (ho : (f, o) ∈ w.K) (hfd : o.data = .func fd) (n : Sees w av s.heap env σ) (rm : Room k A) (ha : Evs w av k q env σ (e :: es) ds)
    (h : ∀ ys s₁, Reps av s₁.heap ys ds → Kp w q s s₁ → wpAny (model PP w.w) A (call (.ref f) ys) Q E s₁)
    (hs : autoParam (starEach (e :: es) env = (false, eval e env) :: starEach es env) PyProof.Rows.call_M_of_MD._auto_3) : wpAny (model PP w.w) A (eval (.Call (.Name x p) (e :: es) [] pos) env) Q E s := by
  refine Call_Name rfl (wpAny_Name (V.load n.kind ?_) V.1)
  have ha' := ha pos
  rw [hs] at ha' ⊢
  exact callWith_function (o := o) (fd := fd) (evalArgs_plain (ha' A s E _ rm n fun ys s₁ rs k₁ => ⟨⟨((n.kp k₁).gd.kx _ _ ho).2.2, hfd⟩, h ys s₁ rs k₁⟩))

theorem enterK {a : Addr} {o oc : Obj} {fd : FuncData} {body : List Stmt} {xs : List Str} {ds : List D} {c' : Addr} {cvs : Array Value} {cu : Tok} {vs : List Value} {R : Flow → Heap → Prop} (σf : Sg) (ho : (a, o) ∈ w.K) (hfd : o.data = .func fd) (hbody : fd.body = .stmts body)
    (hcode : fd.code = .ref c') (hoc : (c', oc) ∈ w.K) (hocd : oc.data = .fields cvs) (hcv : cvs[1]? = some (.str fd.qualname cu)) (hg : fd.globals = mainGlobals) (hbl : fd.builtins = builtinsNs) (hcell : ∀ x ∈ fd.scope.names, x.2 ≠ .cell) (hloc : ∀ x ∈ xs, fd.scope.names.lookup x = some .local ∧ (x == ("__debug__" : Str)) = false)
    (hbind : bindArgs fd ⟨vs, []⟩ = pure (xs.zip vs))
    (hf : ∀ h, Gv w av h → ∀ x d, σf x = some d → (x == ("__debug__" : Str)) = false ∧ fd.scope.names.lookup x = some .free ∧ (x == ("__classdict__" : Str)) = false ∧ ∃ c v, fd.closure.lookup x = some c ∧ h.IsCell c (some v) ∧ Rep av h v d)
    (rm : Room (k + 1) A) (g : Gv w av s.heap) (rs : Reps av s.heap vs ds)
    (h : Ex w k q s.heap (callEnv fd s.heap.objs.size a) av (fun x => (sg xs ds x).or (σf x)) none body R)
    (hQ : ∀ f s', Mv av s s' → R f s'.heap → Q (match f with | .ret v => v | _ => .none) s')
    (hco : autoParam (fd.scope.isCoroutine = false) PyProof.Rows.call_M_of_MD._auto_3) (hgen : autoParam (fd.scope.isGenerator = false) PyProof.Rows.call_M_of_MD._auto_3) (hk : autoParam (fd.scope.kind = .function) PyProof.Rows.call_M_of_MD._auto_3) : wpAny (model PP w.w) A (call (.ref a) vs) Q E s := by
  have hz : ∀ y ∈ xs.zip vs, y.1 ∈ xs := fun y hy => (List.of_mem_zip hy).1
  refine wpAny_call (codeAny_call_def rm.dep (g.gd.kx _ _ ho).2.2 hfd g.gd.lim (by rw [hcode]; exact ⟨c', oc, cvs, cu, rfl, (g.gd.kx _ _ hoc).2.2, hocd, hcv⟩) hbody (BindsTo.of_eq hbind) hcell (fun y hy => (hloc _ (hz y hy)).1) (fun h₁ hns hkeep => ?_) hco hgen hk)
  have x1 : Ext w q s.heap h₁ := .of hkeep
  have F : Fs w av q s.heap (callEnv fd s.heap.objs.size a) (fun x => (sg xs ds x).or (σf x)) none h₁ :=
    { sees := ⟨hk, hg, hbl, g.ext x1, fun x d e => by
        cases hs : sg xs ds x with
        | some d' =>
          rw [hs] at e; cases e
          obtain ⟨v, e1, r⟩ := zip_lookup rs hs
          have hx : x ∈ xs := hz (x, v) (List.mem_reverse.mp (PySem.mem_of_lookup e1))
          exact ⟨v, ⟨(hloc x hx).2, .inl ⟨(hloc x hx).1, _, hns, e1⟩⟩, r.mono (x1.seq g.gd)⟩
        | none =>
          rw [hs] at e
          obtain ⟨h1, h2, h3, c, v, h4, h5, h6⟩ := hf _ (g.ext x1) x d e
          exact ⟨v, ⟨h1, .inr (.inr ⟨h2, h3, c, h4, h5⟩)⟩, h6⟩⟩
      g0 := g.gd
      ext := x1
      ns := ⟨_, hns⟩
      fresh := Nat.le_refl _
      cel := fun n c e => absurd (PySem.mem_of_lookup (show fd.scope.names.lookup n = some .cell from e)) fun hm => hcell _ hm rfl
      apart := fun n n' c e => absurd (PySem.mem_of_lookup (show fd.scope.names.lookup n' = some .cell from e)) fun hm => hcell _ hm rfl
      own := trivial }
  refine h _ { s with heap := h₁, toks := _ } _ _ (rm.deeper _) F fun f s' sm hr => ?_
  exact hQ f s' ⟨Same.trans ⟨_, _, rfl⟩ sm.1, fun b o e p h1 h2 h3 => sm.2 b o (hkeep b o e) p h1 h2 h3⟩ hr

/-- one list that is older than no ground is written -/
theorem Gd.setL {w : Wd} {K : Frag} {h₀ h h' : Heap} {L : Addr} {it : Array Value} {n : Nat} (g : Gd ⟨w.w, K⟩ h) (hK : ∀ p ∈ w.K, p ∈ K) (g0 : Gd w h₀) (h0 : h₀.objs.size ≤ L) (hs : Heap.SameBut L h h') (l : IsL h L it n) (kn : ∀ o, (L, o) ∉ K) : Gd ⟨w.w, K⟩ h' :=
  ((g.down hK).but g0 h0 hs fun o vs e => by rw [l] at e; cases e; intro q; cases q).up fun a o hm => ⟨(g.kx a o hm).1, (g.kx a o hm).2.1, (hs.2 a fun q => kn o (q ▸ hm)).trans (g.kx a o hm).2.2⟩
end
end Mine

set_option maxRecDepth 100000
set_option maxHeartbeats 1000000
namespace Mine
noncomputable def cnt (a n : Nat) : Nat := (Builtin.Int.intBits (a : Int) + n - 1) / n
section
variable {w : Wd} {k : Nat}
theorem cal_i2d {a n : Nat} (hn1 : 1 ≤ n) (hn2 : n ≤ 2000) (hl : cnt a n ≤ 1000) (hn : n * cnt a n ≤ 9000) (ha : a < 2 ^ (n * cnt a n)) : Cal w (k + cnt a n + 5) false (.ref 35) [.int a, .int n] (intsD (digs n (cnt a n) a)) := by
  refine Cal.defC (k := k + cnt a n + 4) (xs := [Str.ofString "a", Str.ofString "n"]) (by rfl) (by rfl) (by rfl) (by rfl) (by rfl) (by rfl) (by rfl) (cap_two ⟨.inl rfl, by decide⟩ ⟨.inr ⟨rfl, fun n => rfl⟩, by decide⟩) (fun vs hv => ?_) (fun h₀ av hav => ?_)
  · obtain ⟨_, _, rfl⟩ := len2 hv
    rfl
  · have hc : ((Builtin.Int.intBits (a : Int) : Nat) + (n : Int) - 1) / (n : Int) = (cnt a n : Nat) := by
      unfold cnt
      rw [Int.natCast_ediv]; congr 1; first | exact (Int.ofNat_sub (Nat.le_trans hn1 (Nat.le_add_left _ _))).symm | omega
    have hrep : List.replicate (cnt a n) (D.int 0) = List.replicate (((Builtin.Int.intBits (a : Int) : Nat) + (n : Int) - 1) / (n : Int)).toNat (D.int 0) := by rw [hc]; rfl
    have hlog : (n : Int).natAbs.log2 < 9000 := by
      rw [Int.natAbs_natCast]
      exact Nat.lt_of_lt_of_le (Nat.log2_lt (Nat.ne_of_gt hn1) |>.mpr (Nat.lt_of_le_of_lt hn2 (by decide : 2000 < 2 ^ 11))) (by decide)
    refine Ex.newV (ds := List.replicate (cnt a n) (.int 0)) ?_ ⟨.inr ⟨rfl, _, rfl, Nat.le_add_right _ 2⟩, by decide⟩ fun L hL => ?_
    · rw [hrep]
      exact EvN.mul (x := .int 0) (Ev.list (Evs.cons Ev.int .nil)) (Ev.bin (Ev.bin (Ev.bin (Ev.meth0 (Ev.name rfl) Get.bits Cal.bits) (Ev.name rfl) Bin.add) Ev.int Bin.sub) (Ev.name rfl) (Bin.div (Int.ofNat_lt.mpr hn1) hlog)) (by rw [hc]; omega) (by rw [hc]; omega)
    refine Ex.nest (c := 34) (P := 30) (qual := Str.ofString "_int2digits.<locals>.inner") (clos := [(Str.ofString "n", h₀.objs.size + 1), (Str.ofString "inner", h₀.objs.size + 1 + 1 + 1), (Str.ofString "a_digits", h₀.objs.size + 1 + 1)]) rfl (by rfl) (by decide) (by decide) (.inl rfl)
      (fun h g => g.t1) (fun h h' g hx t => g.grow1 hx t) (by rfl) (by rfl) ⟨.inr ⟨rfl, _, rfl, Nat.le_add_right _ 3⟩, by decide⟩ (by intro _ e; cases e; show Str.ofString "a_digits" ≠ _; decide) rfl rfl rfl ?_
    intro A s E Q f c' fd rm F V hfd hf hrec hf0 hQ
    obtain ⟨doc, pm, ctv, rfl⟩ := hfd
    obtain ⟨_, hL0, VL, lvs, ln, ll, lr⟩ := F.own
    obtain ⟨vn, Vn, rn⟩ := F.sees.var (Str.ofString "n") (.int n) rfl
    obtain ⟨va, Va, ra⟩ := F.sees.var (Str.ofString "a") (.int a) rfl
    obtain ⟨on, en, dn⟩ := Vn.cell (c := h₀.objs.size + 1) rfl rfl
    obtain ⟨oa, ea, da⟩ := VL.cell (c := h₀.objs.size + 1 + 1) rfl rfl
    obtain ⟨oi, ei, di⟩ := V.cell (c := h₀.objs.size + 1 + 1 + 1) rfl rfl
    obtain ⟨c2, oc, cvs, cu, ec, hoc, hocd, hcv⟩ := hrec
    cases ec
    cases rn with | int _ tn =>
    generalize hfo : ({ cls := .type "function", data := .func (fnX (Str.ofString "inner") _ _ _ _ _ _ _ _ _ _ _ _) } : Obj) = fo at hf
    have hz : List.replicate (cnt a n) (D.int 0) = (List.replicate (cnt a n) (0 : Int)).map .int := by simp
    rw [hz] at lr
    have hints := lr.ints
    let K' : Frag := (f, fo) :: (c', oc) :: (h₀.objs.size + 1, on) :: (h₀.objs.size + 1 + 1, oa) :: (h₀.objs.size + 1 + 1 + 1, oi) :: w.K
    have g := F.sees.gd
    have fin : ∀ a o, s.heap.get? a = some o → (∀ vs, o.data ≠ .fields vs) → a ≠ 30 ∧ a ≠ 37 ∧ s.heap.get? a = some o := fun a o e hd => ⟨(g.ne e hd).1, (g.ne e hd).2, e⟩
    have hK : ∀ a o, (a, o) ∈ K' → a ≠ 30 ∧ a ≠ 37 ∧ s.heap.get? a = some o := kcons (fin _ _ hf fun vs e => by rw [← hfo] at e; cases e) (kcons ⟨(g.neCode hoc hocd hcv).1, (g.neCode hoc hocd hcv).2, hoc⟩ (kcons (fin _ _ en fun vs e => by rw [dn] at e; cases e) (kcons (fin _ _ ea fun vs e => by rw [da] at e; cases e) (kcons (fin _ _ ei fun vs e => by rw [di] at e; cases e) g.kx))))
    have g' : Gd ⟨w.w, K'⟩ s.heap := g.up hK
    have pl : ∀ {b o}, b ∈ L :: av → s.heap.get? b = some o → Pl o := fun ha e => by
      obtain ⟨_, o', e', hp⟩ := F.sees.gv.own _ ha
      rw [e] at e'; cases e'; exact hp
    have nL : f ≠ L := fun e => by
      subst e
      rw [ll] at hf; cases hf; exact absurd (congrArg Obj.data hfo) (by intro h; cases h)
    have kn0 : ∀ a o, (a, o) ∈ K' → a ∉ L :: av := kcons (fun ha => (List.mem_cons.mp ha).elim nL fun ha => absurd (hav _ ha) (Nat.not_lt.mpr hf0)) (kcons (fun ha => (pl ha hoc).2.2 _ _ _ hocd hcv) (kcons (fun ha => (pl ha en).2.1 _ dn) (kcons (fun ha => (pl ha ea).2.1 _ da) (kcons (fun ha => (pl ha ei).2.1 _ di) fun a o hm ha => F.sees.gv.kn a ha o hm))))
    have kn' : ∀ b ∈ L :: av, ∀ o, (b, o) ∉ K' := fun b hb o hm => kn0 b o hm hb
    have knL : ∀ o, (L, o) ∉ K' := kn' L (.head _)
    have mF : (f, fo) ∈ K' := .head _
    have mC : (c', oc) ∈ K' := .tail _ (.head _)
    have mN : (h₀.objs.size + 1, on) ∈ K' := .tail _ (.tail _ (.head _))
    have mA : (h₀.objs.size + 1 + 1, oa) ∈ K' := .tail _ (.tail _ (.tail _ (.head _)))
    have mI : (h₀.objs.size + 1 + 1 + 1, oi) ∈ K' := .tail _ (.tail _ (.tail _ (.tail _ (.head _))))
    have hsub : ∀ p ∈ w.K, p ∈ K' := fun p hp => .tail _ (.tail _ (.tail _ (.tail _ (.tail _ hp))))
    clear_value K'
    have hI : ∀ h, Gd ⟨w.w, K'⟩ h → h.IsCell (h₀.objs.size + 1 + 1 + 1) (some (.ref f)) := fun h g₁ => ⟨oi, (g₁.kx _ _ mI).2.2, di⟩
    have hA : ∀ h, Gd ⟨w.w, K'⟩ h → h.IsCell (h₀.objs.size + 1 + 1) (some (.ref L)) := fun h g₁ => ⟨oa, (g₁.kx _ _ mA).2.2, da⟩
    have inner : ∀ m (x l r : Nat), r - l ≤ m → l < r → r ≤ cnt a n → x < 2 ^ (n * (r - l)) → ∀ (av₁ : List Addr) (A₁ : Around) (s₁ : Shared) (E₁ : Value → Shared → Prop) (Q₁ : Value → Shared → Prop) (vs₁ : List Value) (ds : List Int) (nn : Nat) (ys : List Value), L ∈ av₁ → Room (k + m + 2) A₁ → Gv ⟨w.w, K'⟩ av₁ s₁.heap →
        IsL s₁.heap L vs₁.toArray nn → IntsAre vs₁ ds → ds.length = cnt a n → Reps av₁ s₁.heap ys [.int x, .int l, .int r] →
        (∀ s' vs' nn', Same s₁ s' → Chg ⟨w.w, K'⟩ L s₁.heap s'.heap → IsL s'.heap L vs'.toArray nn' → IntsAre vs' (put ds l (digs n (r - l) x)) → Q₁ .none s') → wpAny (model PP w.w) A₁ (call (.ref f) ys) Q₁ E₁ s₁ := by
      intro m
      induction m with
      | zero => intro x l r h1 h2; exact (mid_none h1 h2).elim
      | succ m ih =>
        intro x l r h1 h2 h3 hx av₁ A₁ s₁ E₁ Q₁ vs₁ ds nn ys hL₁ rm₁ gv₁ l₁ i₁ hlen rs hQ₁
        have hpw : n * (r - l) ≤ 9000 := Nat.le_trans (Nat.mul_le_mul_left _ (Nat.le_trans (Nat.sub_le _ _) h3)) hn
        refine enterK (w := ⟨w.w, K'⟩) (k := k + m + 2) (q := true) (xs := [Str.ofString "x", Str.ofString "L", Str.ofString "R"]) (R := fun fl hp => (fl = .next ∨ fl = .ret .none) ∧ ∃ vs' nn', IsL hp L vs'.toArray nn' ∧ IntsAre vs' (put ds l (digs n (r - l) x)) ∧ Chg ⟨w.w, K'⟩ L s₁.heap hp)
          (fun y => if y = Str.ofString "n" then some (.int n) else none) mF (by rw [← hfo]) rfl rfl mC hocd hcv rfl rfl (hcell_of rfl) (cap_three ⟨rfl, by decide⟩ ⟨rfl, by decide⟩ ⟨rfl, by decide⟩) ?_ (fun h₁ g₁ y d e => ?_) rm₁ gv₁ rs ?_ (fun fl s' mv hr => ?_)
        · obtain ⟨_, _, _, rfl⟩ := len3 (rs.length)
          rfl
        · split at e
          · cases e; rename_i hy; subst hy
            exact ⟨by decide, rfl, by decide, _, _, rfl, ⟨on, (g₁.gd.kx _ _ mN).2.2, dn⟩, .int _ _⟩
          · cases e
        · refine Ex.iff (Tr.cmp (Ev.bin (Ev.name rfl) Ev.int Bin.add) (Ev.name rfl) Cmp.eqI) (fun hc => ?_) (fun hc => ?_)
          · have hr : r = l + 1 := eq_succ (beq_iff_eq.mp hc)
            subst hr
            intro A₂ s₂ E₂ Q₂ rm₂ F₂ hQ₂
            refine wpAny_execs_cons (wpAny_Assign_Subscript (Ev.name (q := true) (d := .int x) rfl A₂ s₂ E₂ _ rm₂ F₂.sees fun v s₃ rv k₃ => ?_))
            have F₃ := F₂.extend k₃.ext
            refine wpAny_Name (wpAny_loadName_free F₃.sees.kind rfl rfl (hA _ F₃.sees.gd) ?_) (by decide)
            refine Ev.name (q := true) (d := .int l) rfl A₂ s₃ E₂ _ rm₂ F₃.sees fun iv s₄ ri k₄ => ?_
            have F₄ := F₃.extend k₄.ext
            cases rv with | int _ t₁ =>
            cases ri with | int _ t₂ =>
            have l₄ : IsL s₄.heap L vs₁.toArray nn := F₄.ext.all _ _ l₁
            have hvl := ints_len i₁
            refine ki_setAt l₄ (Int.natCast_nonneg _) (cast_lt63 h3 hl) (by rw [List.size_toArray]; omega) ?_
            have l₅ := l₄.update (·.setIfInBounds (l : Int).toNat (.int x t₁))
            rw [Int.toNat_natCast, List.setIfInBounds_toArray] at l₅
            refine wpAny_execs_cons (wpAny_Return_none (hQ₂ (.ret .none) _ ⟨(k₃.same.trans k₄.same).trans ⟨_, _, rfl⟩, fun b o e p h1 h2 h3 => ?_⟩ ⟨.inr rfl, vs₁.set l (.int x t₁), _, l₅, ?_, ?_⟩))
            · exact ((Heap.SameBut.update ..).2 b fun q => h3 (q ▸ hL₁)).trans (k₄.ext.all _ _ (k₃.ext.all _ _ e))
            · have hx1 : (x : Int) % 2 ^ n = x := by
                rw [Nat.add_sub_cancel_left, Nat.mul_one] at hx
                exact Int.emod_eq_of_lt (Int.natCast_nonneg _) (by exact_mod_cast hx)
              rw [Nat.add_sub_cancel_left, digs, digs, hx1, put_one (by rw [hlen]; exact h3)]
              exact ints_set i₁
            · exact (Chg.of F₄.ext).trans ⟨fun b o hb e => ((Heap.SameBut.update ..).2 b hb).trans e, fun g => g.setL hsub F.g0 hL0 (Heap.SameBut.update ..) l₄ knL⟩
          · have hr : l + 1 ≠ r := fun e => by subst e; simp at hc
            have hmid : ((l : Int) + (r : Int)) / 2 ^ (1 : Int).toNat = ((l + r) / 2 : Nat) := by
              exact mid_cast l r
            generalize hM : (l + r) / 2 = M at hmid
            obtain ⟨hM1, hM2⟩ := mid_pos h2 hr hM
            obtain ⟨le1, le2⟩ := mid_le h1 hM1 hM2
            have le3 : M ≤ cnt a n := Nat.le_trans (Nat.le_of_lt hM2) h3
            have hma := mid_add hM1 hM2
            have hsh : ((M : Int) - (l : Int)) * (n : Int) = (((M - l) * n : Nat) : Int) := by
              rw [Int.natCast_mul, Int.natCast_sub (Nat.le_of_lt hM1)]
            have hS : (M - l) * n ≤ 9000 := Nat.le_trans (Nat.mul_le_mul_right _ (mid_sub1 hM2 : M - l ≤ r - l)) (by rw [Nat.mul_comm]; exact hpw)
            have hS2 : (M - l) * n + n * (r - M) = n * (r - l) := by
              rw [Nat.mul_comm, ← Nat.mul_add, hma]
            generalize hSe : (M - l) * n = S at *
            have hup : (x : Int) / 2 ^ (S : Int).toNat = ((x / 2 ^ S : Nat) : Int) := by rw [Int.toNat_natCast]; push_cast; rfl
            have hlo : Builtin.bitXor (x : Int) (((x / 2 ^ S : Nat) : Int) * 2 ^ (S : Int).toNat) = ((x % 2 ^ S : Nat) : Int) := by
              rw [Int.toNat_natCast]; have := low_xor x S; push_cast; exact this
            have hxu : x / 2 ^ S < 2 ^ (n * (r - M)) := Nat.div_lt_of_lt_mul (by rw [← Nat.pow_add, hS2]; exact hx)
            have hxl : x % 2 ^ S < 2 ^ (n * (M - l)) := by
              rw [show n * (M - l) = S by rw [Nat.mul_comm]; exact hSe]; exact Nat.mod_lt _ (Nat.pow_pos (by decide))
            have hbig : ((x / 2 ^ S : Nat) : Int).natAbs < 2 ^ 10000 := by
              rw [Int.natAbs_natCast]
              exact Nat.lt_of_lt_of_le hxu (Nat.pow_le_pow_right (by decide) (Nat.le_trans (Nat.mul_le_mul_left _ (mid_sub2 hM1 : r - M ≤ r - l)) (Nat.le_trans hpw (by decide))))
            refine Ex.nil fun hp F => ⟨_, _, F, ?_⟩
            refine Ex.assign (d := .int (M : Nat)) (by rw [← hmid]; exact Ev.bin (Ev.bin (Ev.name rfl) (Ev.name rfl) Bin.add) Ev.int (Bin.shr (by decide))) ⟨.inl rfl, by decide⟩ ?_
            refine Ex.assign (d := .int (S : Nat)) (by rw [← hsh]; exact Ev.bin (Ev.bin (Ev.name rfl) (Ev.name rfl) Bin.sub) (Ev.name rfl) (Bin.mul (.inl (abs_sub le3 hl hM1)))) ⟨.inl rfl, by decide⟩ ?_
            refine Ex.assign (d := .int (x / 2 ^ S : Nat)) (by rw [← hup]; exact Ev.bin (Ev.name rfl) (Ev.name rfl) (Bin.shr (Int.natCast_nonneg _))) ⟨.inl rfl, by decide⟩ ?_
            refine Ex.assign (d := .int (x % 2 ^ S : Nat)) (by rw [← hlo]; exact Ev.bin (Ev.name rfl) (Ev.bin (Ev.name rfl) (Ev.name rfl) (Bin.shl (Int.natCast_nonneg _) (cast_le6 hS) hbig)) Bin.xor) ⟨.inl rfl, by decide⟩ ?_
            intro A₂ s₂ E₂ Q₂ rm₂ F₂ hQ₂
            have l₂ : IsL s₂.heap L vs₁.toArray nn := F₂.ext.all _ _ l₁
            refine wpAny_execs_cons (wpAny_Expr (callStd (w := ⟨w.w, K'⟩) (q := true) (ds := [.int (x % 2 ^ S : Nat), .int l, .int M]) ⟨by decide, .inr (.inr ⟨rfl, by decide, _, rfl, hI _ F₂.sees.gd⟩)⟩ mF (by rw [← hfo]) F₂.sees rm₂ (Evs.cons (Ev.name rfl) (Evs.cons (Ev.name rfl) (Evs.cons (Ev.name rfl) .nil))) fun ys₁ s₃ rs₃ k₃ => ?_))
            have n₃ := F₂.sees.kp k₃
            have l₃ : IsL s₃.heap L vs₁.toArray nn := k₃.ext.all _ _ l₂
            have hd1 := digs_len n (M - l) (x % 2 ^ S : Nat)
            refine ih (x % 2 ^ S) l M le1 hM1 le3 hxl av₁ A₂ s₃ E₂ _ vs₁ ds nn ys₁ hL₁ rm₂ n₃.gv l₃ i₁ hlen rs₃ fun s₄ vs₄ nn₄ sm₄ ch₄ l₄ i₄ => ?_
            have n₄ := n₃.chg ch₄ hL₁ l₃ l₄
            refine wpAny_execs_cons (wpAny_Expr (callStd (w := ⟨w.w, K'⟩) (q := true) (ds := [.int (x / 2 ^ S : Nat), .int M, .int r]) ⟨by decide, .inr (.inr ⟨rfl, by decide, _, rfl, hI _ n₄.gd⟩)⟩ mF (by rw [← hfo]) n₄ rm₂ (Evs.cons (Ev.name rfl) (Evs.cons (Ev.name rfl) (Evs.cons (Ev.name rfl) .nil))) fun ys₂ s₅ rs₅ k₅ => ?_))
            have l₅ : IsL s₅.heap L vs₄.toArray nn₄ := k₅.ext.all _ _ l₄
            have hlen4 : (put ds l (digs n (M - l) (x % 2 ^ S : Nat))).length = cnt a n := by rw [put_len (by rw [hd1, Nat.add_sub_cancel' (Nat.le_of_lt hM1), hlen]; exact le3), hlen]
            refine ih (x / 2 ^ S) M r le2 hM2 h3 hxu av₁ A₂ s₅ E₂ _ vs₄ _ nn₄ ys₂ hL₁ rm₂ (n₄.kp k₅).gv l₅ i₄ hlen4 rs₅ fun s₆ vs₆ nn₆ sm₆ ch₆ l₆ i₆ => ?_
            refine wpAny_execs_nil (hQ₂ .next s₆ ⟨((k₃.same.trans sm₄).trans k₅.same).trans sm₆, fun b o e p h1 h2 h3 => ?_⟩ ⟨.inl rfl, vs₆, nn₆, l₆, ?_, ?_⟩)
            · have hne : b ≠ L := fun q => h3 (q ▸ hL₁)
              exact ch₆.keep _ _ hne (k₅.ext.all _ _ (ch₄.keep _ _ hne (k₃.ext.all _ _ e)))
            · have e1 : l + (digs n (M - l) ((x % 2 ^ S : Nat) : Int)).length = M := by rw [hd1, Nat.add_sub_cancel' (Nat.le_of_lt hM1)]
              have hd2 := digs_len n (r - M) (x / 2 ^ S : Nat)
              have := put_put (ds := ds) (ys := digs n (M - l) ((x % 2 ^ S : Nat) : Int)) (zs := digs n (r - M) ((x / 2 ^ S : Nat) : Int)) (l := l) (by rw [e1, hd2, Nat.add_sub_cancel' (Nat.le_of_lt hM2), hlen]; exact h3)
              rw [e1] at this
              rw [this] at i₆
              have e2 := digs_add n (M - l) (r - M) (x : Int)
              rw [hma, hSe] at e2
              rw [e2]
              have c1 : ((x % 2 ^ S : Nat) : Int) = (x : Int) % 2 ^ S := by push_cast; rfl
              have c2 : ((x / 2 ^ S : Nat) : Int) = (x : Int) / 2 ^ S := by push_cast; rfl
              rw [← c1, ← c2]
              exact i₆
            · exact ((((Chg.of F₂.ext).trans (.of k₃.ext)).trans ch₄).trans (.of k₅.ext)).trans ch₆
        · obtain ⟨hf, vs', nn', h1, h2, h3⟩ := hr
          rcases hf with rfl | rfl
          · exact hQ₁ s' vs' nn' mv.1 h3 h1 h2
          · exact hQ₁ s' vs' nn' mv.1 h3 h1 h2
    have hlenz : ((List.replicate (cnt a n) (0 : Int)).map D.int).length = cnt a n := by simp
    have fin : ∀ s' vs' nn', Same s s' → (∀ b o, b ≠ L → s.heap.get? b = some o → s'.heap.get? b = some o) → Gd ⟨w.w, K'⟩ s'.heap → IsL s'.heap L vs'.toArray nn' → IntsAre vs' (digs n (cnt a n) a) → Q (.ret (.ref L)) s' := fun s' vs' nn' sm kp gd' l' i' =>
      hQ _ s' ⟨sm, fun b o e p h1 h2 h3 => kp b o (fun q => h3 (q ▸ .head _)) e⟩ ⟨.ref L, rfl, .list hL l' (reps_of_ints i'), fun b o hb e => kp b o (fun q => Nat.lt_irrefl _ (Nat.lt_of_lt_of_le (Heap.lt_size e) (q ▸ hL0))) (F.ext.keep b o hb e), fun _ => gd'.down hsub⟩
    have n' : Sees ⟨w.w, K'⟩ av s.heap (callEnvC _ h₀.objs.size 35) (Sg.set _ (Str.ofString "a_digits") (intsD (List.replicate (cnt a n) 0))) := ⟨F.sees.kind, F.sees.glob, F.sees.blt, ⟨g', fun b hb => F.sees.gv.own b (.tail _ hb), fun b hb => kn' b (.tail _ hb)⟩, fun y d e => by
      unfold Sg.set at e
      split at e
      · rename_i hy; cases e; subst hy; exact ⟨_, VL, .list hL ll (reps_of_ints hints)⟩
      · obtain ⟨v, V', r⟩ := F.sees.var y d e
        exact ⟨v, V', r.less fun b hb => .tail _ hb⟩⟩
    refine wpAny_execs_cons (wpAny_If ?_)
    refine Tr.val (w := ⟨w.w, K'⟩) (q := true) (d := .int a) ?_ rfl rfl A s E _ rm n' fun s₁ k₁ => ?_
    · exact Ev.name rfl
    have n₁ := n'.kp k₁
    by_cases ha0 : a = 0
    · rw [if_neg (by simp [tru, ha0])]
      refine wpAny_execs_nil ?_
      refine wpAny_execs_cons (wpAny_Return_some (wpAny_Name (wpAny_loadName_cell n₁.kind rfl rfl (hA _ n₁.gd) ?_) (by decide)))
      have hc0 : cnt a n = 0 := by
        subst ha0
        exact Nat.div_eq_of_lt (by show 0 + n - 1 < n; rw [Nat.zero_add]; exact Nat.sub_lt hn1 (by decide))
      refine fin s₁ lvs ln k₁.same (fun b o _ e => k₁.ext.all _ _ e) n₁.gd (k₁.ext.all _ _ ll) ?_
      rw [hc0] at hints ⊢
      exact hints
    · rw [if_pos (by simp [tru, ha0])]
      refine wpAny_execs_cons (wpAny_Expr (callStd (w := ⟨w.w, K'⟩) (q := true) (ds := [.int (a : Nat), .int ((0 : Nat) : Int), .int (cnt a n : Nat)]) ⟨by decide, .inr (.inl ⟨rfl, _, rfl, hI _ n₁.gd⟩)⟩ mF (by rw [← hfo]) n₁ rm ?_ fun ys s₂ rs₂ k₂ => ?_))
      · have hcl : Cal (⟨w.w, K'⟩ : Wd) (k + cnt a n + 4) true (.builtin "len") [intsD (List.replicate (cnt a n) 0)] (.int (cnt a n : Nat)) := by
          have := Cal.len (w := ⟨w.w, K'⟩) (k := k + cnt a n + 4) (q := true) (xs := (List.replicate (cnt a n) (0 : Int)).map D.int) (by rw [hlenz]; omega)
          rw [hlenz] at this; exact this
        exact Evs.cons (Ev.name rfl) (Evs.cons Ev.int (Evs.cons (Ev.calb boot_len (Evs.cons (Ev.name rfl) .nil) hcl) .nil))
      · have n₂ := n₁.kp k₂
        have l₂ : IsL s₂.heap L lvs.toArray ln := k₂.ext.all _ _ (k₁.ext.all _ _ ll)
        have gv₂ : Gv ⟨w.w, K'⟩ (L :: av) s₂.heap := ⟨n₂.gd, fun b hb => (List.mem_cons.mp hb).elim (fun e => e ▸ ⟨(F.sees.gv.own L (.head _)).1, _, l₂, .seq rfl⟩) (n₂.gv.own b), kn'⟩
        have rs₂' : Reps (L :: av) s₂.heap ys [.int (a : Nat), .int ((0 : Nat) : Int), .int (cnt a n : Nat)] := by
          cases rs₂ with | cons r1 rs₂ =>
          cases rs₂ with | cons r2 rs₂ =>
          cases rs₂ with | cons r3 rs₂ =>
          cases rs₂; cases r1; cases r2; cases r3
          exact .cons (.int _ _) (.cons (.int _ _) (.cons (.int _ _) .nil))
        have hpos : 0 < cnt a n := by
          rcases Nat.eq_zero_or_pos (cnt a n) with h | h
          · rw [h, Nat.mul_zero] at ha; omega
          · exact h
        refine inner (cnt a n + 2) a 0 (cnt a n) (by omega) hpos (Nat.le_refl _) (by rw [Nat.sub_zero]; exact ha) (L :: av) A s₂ E _ lvs _ ln ys (.head _) rm gv₂ l₂ hints (by simp) rs₂' fun s₃ vs₃ nn₃ sm₃ ch₃ l₃ i₃ => ?_
        have gd₃ := ch₃.gd n₂.gd
        refine wpAny_execs_nil ?_
        refine wpAny_execs_cons (wpAny_Return_some (wpAny_Name (wpAny_loadName_cell n₁.kind rfl rfl (hA _ gd₃) ?_) (by decide)))
        refine fin s₃ vs₃ nn₃ ((k₁.same.trans k₂.same).trans sm₃) (fun b o hb e => ch₃.keep _ _ hb (k₂.ext.all _ _ (k₁.ext.all _ _ e))) gd₃ l₃ ?_
        rw [Nat.sub_zero, put_all (by rw [digs_len]; simp)] at i₃
        exact i₃
end
end Mine

set_option maxRecDepth 100000
set_option maxHeartbeats 1000000
namespace Mine

/-! plain -/
theorem dval_digs (n : Nat) : ∀ (c : Nat) (x : Int), 0 ≤ x → x < 2 ^ (n * c) → dval n (digs n c x) = x
  | 0, x, h0, h1 => by simp at h1; simp [digs, dval]; omega
  | c + 1, x, h0, h1 => by
    have hp := pow_pos2 n
    have h2 : x / 2 ^ n < 2 ^ (n * c) := Int.ediv_lt_of_lt_mul hp (by rw [← Int.pow_add, ← Nat.mul_succ]; exact h1)
    rw [digs, dval, dval_digs n c _ (Int.ediv_nonneg h0 (Int.le_of_lt hp)) h2, Int.emod_add_mul_ediv]
theorem step_div {b hi q r d : Int} {n : Nat} (hb : 0 < b) (hq : q = hi / b) (hr : r = hi % b) (hd0 : 0 ≤ d) : (r * 2 ^ n + d) / b + 2 ^ n * q = (d + 2 ^ n * hi) / b ∧ (r * 2 ^ n + d) % b = (d + 2 ^ n * hi) % b := by
  have e : d + 2 ^ n * hi = (r * 2 ^ n + d) + b * (2 ^ n * q) := by
    have := Int.emod_add_mul_ediv hi b
    rw [← hq, ← hr] at this
    rw [← this, Int.mul_add, Int.mul_left_comm]
    have : (2 : Int) ^ n * r = r * 2 ^ n := Int.mul_comm _ _
    omega
  rw [e, Int.add_mul_ediv_left _ _ (Int.ne_of_gt hb), Int.add_mul_emod_self_left]
  exact ⟨rfl, rfl⟩
theorem step_lt {b r d : Int} {n : Nat} (hb : 0 < b) (hr0 : 0 ≤ r) (hr : r < b) (hd0 : 0 ≤ d) (hd : d < 2 ^ n) : 0 ≤ r * 2 ^ n + d ∧ r * 2 ^ n + d < b * 2 ^ n ∧ (r * 2 ^ n + d) / b < 2 ^ n := by
  have hp := pow_pos2 n
  have h1 : (r + 1) * 2 ^ n ≤ b * 2 ^ n := Int.mul_le_mul_of_nonneg_right (by omega) (Int.le_of_lt hp)
  have h2 : 0 ≤ r * 2 ^ n := Int.mul_nonneg hr0 (Int.le_of_lt hp)
  rw [Int.add_mul, Int.one_mul] at h1
  refine ⟨by omega, by omega, Int.ediv_lt_of_lt_mul hb ?_⟩
  rw [Int.mul_comm (2 ^ n) b]; omega
theorem bits_le {x : Nat} {m : Nat} (h : x < 2 ^ m) : Builtin.Int.intBits (x : Int) ≤ m := by
  unfold Builtin.Int.intBits
  split
  · exact Nat.zero_le _
  · rename_i hx
    have hx0 : x ≠ 0 := fun e => hx (by rw [e]; rfl)
    rw [Int.natAbs_natCast]
    exact (Nat.log2_lt hx0).mpr h
theorem lt_bits (x : Nat) : x < 2 ^ Builtin.Int.intBits (x : Int) := by
  unfold Builtin.Int.intBits
  split
  · rename_i hx
    have : x = 0 := by have := beq_iff_eq.mp hx; omega
    subst this; decide
  · rw [Int.natAbs_natCast]; exact Nat.lt_log2_self
theorem cnt_ge {a n : Nat} (hn : 1 ≤ n) : Builtin.Int.intBits (a : Int) ≤ n * cnt a n := by
  unfold cnt
  have := Nat.div_add_mod (Builtin.Int.intBits (a : Int) + n - 1) n
  have := Nat.mod_lt (Builtin.Int.intBits (a : Int) + n - 1) (show 0 < n by omega)
  omega
theorem cnt_le {a n : Nat} (hn : 1 ≤ n) : n * cnt a n ≤ Builtin.Int.intBits (a : Int) + n - 1 := Nat.mul_div_le _ _
theorem lt_cnt {a n : Nat} (hn : 1 ≤ n) : a < 2 ^ (n * cnt a n) := Nat.lt_of_lt_of_le (lt_bits a) (Nat.pow_le_pow_right (by decide) (cnt_ge hn))

/-! rules -/
theorem Var.but {h h' : Heap} {env : Env} {y : Str} {u : Value} {a : Addr} {it : Array Value} {n : Nat} (V : Var h env y u) (hs : Heap.SameBut a h h') (l : IsL h a it n) : Var h' env y u := ⟨V.1, by
  rcases V.2 with ⟨k, m, b, c⟩ | ⟨k, c, b, d⟩ | ⟨k, k', c, b, d⟩
  · refine .inl ⟨k, m, b.sameBut hs fun e => ?_, c⟩
    obtain ⟨o, es, ep, e', hd, _⟩ := b
    rw [e, l] at e'; cases e'; cases hd
  · refine .inr (.inl ⟨k, c, b, d.sameBut hs fun e => ?_⟩)
    obtain ⟨o, e', hd⟩ := d
    rw [e, l] at e'; cases e'; cases hd
  · refine .inr (.inr ⟨k, k', c, b, d.sameBut hs fun e => ?_⟩)
    obtain ⟨o, e', hd⟩ := d
    rw [e, l] at e'; cases e'; cases hd⟩
section
variable {w : Wd} {av : List Addr} {k : Nat} {q : Bool} {h₀ : Heap} {env : Env} {σ : Sg} {ω : Om} {R : Flow → Heap → Prop} {rest : List Stmt}
/-- a list that is being filled is turned round -/
theorem Ex.rev {x : Str} {px p1 p2 p3 : Pos} {pl : Sem Bool} {a : Addr} {ds : List D} (hz : ds.length ≤ sizeLine) (h : Ex w k q h₀ env (a :: av) σ (some (x, a, ds.reverse)) rest R)
    (hcall : autoParam (eval (.Call (.Attribute (.Name x px) (Str.ofString "reverse") p1) [] [] p2) env = (do
      let ov ← eval (.Name x px) env
      standAt p1.atName
      let (f, first) ← holding [ov] (getMethod ov (Str.ofString "reverse") pl)
      callWith p2 f first (backTo p2 (starEach [] env)) [])) PyProof.Rows.call_M_of_MD._auto_3)
    (hi : autoParam (interactive env = false) PyProof.Rows.call_M_of_MD._auto_3) (hs : autoParam (swapsWith (.Call (.Attribute (.Name x px) (Str.ofString "reverse") p1) [] [] p2) none p3.line env = pure false) PyProof.Rows.call_M_of_MD._auto_3) :
    Ex w k q h₀ env (a :: av) σ (some (x, a, ds)) (.Expr (.Call (.Attribute (.Name x px) (Str.ofString "reverse") p1) [] [] p2) p3 :: rest) R := fun A s E Q rm F hQ => by
  obtain ⟨ha, h0, hv, vs, n, l, r⟩ := F.own
  refine wpAny_execs_cons (wpAny_Expr (MethodCall_ (pl := pl) (wpAny_Name (hv.load F.sees.kind ?_) hv.1) hcall) hi hs)
  refine getMethod_builtin (T := "list") ⟨_, l, rfl⟩ PySem.F.plainAttrs_list PySem.F.slot_list_reverse PySem.F.type_list_reverse (fun a e => by cases e; exact ⟨_, l, rfl⟩) ?_
  refine callWith_method0 ?_
  refine call_meets PySem.F.slot_list_reverse ⟨_, l, rfl⟩ PySem.F.entry_list_reverse (PySem.F.args_list_reverse_1 _) (AutoSeq1.list_reverse_list_0 a vs.toArray n (by rw [List.size_toArray, r.length]; exact hz)) ⟨l, ?_⟩
  have l' := l.update (fun x => x.reverse)
  rw [List.reverse_toArray] at l'
  have sb : Heap.SameBut a s.heap (s.heap.update a (Obj.mapSeq fun x => x.reverse)) := Heap.SameBut.update ..
  have F₁ : Fs w (a :: av) q h₀ env σ none s.heap := { F with own := trivial }
  have F₂ := F₁.upd (.head _) h0 l l' sb
  have F₃ : Fs w (a :: av) q h₀ env σ (some (x, a, ds.reverse)) (s.heap.update a (Obj.mapSeq fun x => x.reverse)) :=
    { F₂ with own := ⟨.head _, h0, hv.but sb l, vs.reverse, _, l', r.reverse.mono fun b o it m hb e _ => (sb.2 b fun e' => hb (e' ▸ .head _)).trans e⟩ }
  exact h A { s with heap := s.heap.update a (Obj.mapSeq fun x => x.reverse) } E Q rm F₃ fun f s₃ sm' hr => hQ f s₃ (Mv.trans ⟨⟨_, _, rfl⟩, fun b o e p h1 h2 h3 => (sb.2 b fun e' => h3 (e' ▸ .head _)).trans e⟩ sm') hr

theorem boot_reversed : bootBuiltins (Str.ofString "reversed") = some (.type "reversed") := by decide +kernel
theorem It.rev {e : Expr} {p pos : Pos} {ds : List D} (he : Ev w av k q env σ e (.list ds)) (hf : nsIn (hd.heap_39 w.params) mainGlobals (Str.ofString "reversed") = some none) (hk : autoParam (env.kindOf (Str.ofString "reversed") = some .globalImplicit) PyProof.Rows.call_M_of_MD._auto_3) (hs : autoParam (starEach [e] env = [(false, eval e env)]) PyProof.Rows.call_M_of_MD._auto_3) :
    It w av k q env σ (.Call (.Name (Str.ofString "reversed") p) [e] [] pos) ds.reverse := fun A s E Q rm n h => by
  refine Call_Name1 (name_boot n hk hf boot_reversed (by decide) (PyProof.Rows.callWith_type rfl (evalArgs_plain ?_)) (by decide)) hs
  have := (Evs.cons he .nil hs) pos
  rw [hs] at this
  refine this A s E _ rm n fun ys s₁ rs k₁ => ?_
  cases rs with | cons r rs =>
  cases rs
  cases r with | @list a vs m _ ha l r =>
  have hl : s₁.heap.IsList a vs.toArray := ⟨_, l, rfl, _, rfl⟩
  have lt : a < s₁.heap.objs.size := Heap.lt_size l
  refine call_reversed_list hl ?_
  have hsz : vs.toArray.size = ds.reverse.length := by rw [List.size_toArray, List.length_reverse]; exact r.length
  have hit : (s₁.heap.push (revObj a ((vs.toArray.size : Int) - 1))).IsRevIter s₁.heap.objs.size a ((vs.toArray.size : Int) - 1) := ⟨_, Heap.get?_push_size _ rfl, rfl, rfl⟩
  have W := Walks.listRev (prog := PP) (w := w.w) rm.hd s₁.heap.objs.size a (Nat.ne_of_lt lt) vs.toArray
  have W2 := walks_bound W
  rw [hsz] at W2
  have sz : (s₁.heap.push (revObj a ((vs.toArray.size : Int) - 1))).objs.size = s₁.heap.objs.size + 1 := Heap.size_push ..
  refine wpAny_pyIter_revIter hit (h s₁ _ s₁.heap.objs.size [s₁.heap.objs.size, a] _ _ k₁ ⟨_, _, rfl⟩ ⟨W2, ?_, ?_, Heap.get?_none_of_le (Nat.le_refl _), Nat.le_refl _, fun b o e => Heap.get?_push_of_some _ e, ?_, ?_, ?_⟩)
  · refine ⟨Nat.zero_le _, ?_, hl.push _⟩
    simpa [hsz] using hit
  · intro b hb
    show b < (s₁.heap.push _).objs.size
    rw [sz]
    rcases List.mem_cons.mp hb with rfl | hb
    · exact Nat.lt_succ_self _
    · rcases List.mem_cons.mp hb with rfl | hb
      · exact Nat.lt_succ_of_lt lt
      · cases hb
  · rintro i v ⟨hi, hp⟩
    refine r.reverse.get (i := i) ?_
    rw [← hsz, List.size_toArray] at hi
    rw [List.getElem?_reverse hi, ← hsz] at *
    simpa using hp
  · rintro i hh ⟨_, ⟨o, e, hc, hd⟩, _⟩
    exact ⟨o, _, _, e, hc, by decide, hd, fun x u e => by cases e⟩
  · rintro i hh ⟨_, ⟨o, e, hc, hd⟩, o', e', _, n', hd'⟩ b hb
    rcases List.mem_cons.mp hb with rfl | hb
    · exact ⟨(n.kp k₁).gv.new, ((n.kp k₁).gd.big (Nat.le_refl _)).1, ((n.kp k₁).gd.big (Nat.le_refl _)).2, o, e, .fields hd fun x u e => by cases e⟩
    · rcases List.mem_cons.mp hb with rfl | hb
      · have := (n.kp k₁).gd.ne l fun vs e => by cases e
        exact ⟨ha, this.1, this.2, o', e', .seq hd'⟩
      · cases hb
end
end Mine

set_option maxRecDepth 100000
set_option maxHeartbeats 1000000
namespace Mine
section
variable {w : Wd} {k : Nat} {q : Bool}
theorem at_div2n1n : DefAt w (Str.ofString "_div2n1n") 21 := .of rfl rfl
theorem at_i2d : DefAt w (Str.ofString "_int2digits") 35 := .of rfl rfl
theorem at_d2i : DefAt w (Str.ofString "_digits2int") 42 := .of rfl rfl
theorem at_divpos : DefAt w (Str.ofString "_divmod_pos") 49 := .of rfl rfl
theorem at_intdivmod : DefAt w (Str.ofString "int_divmod") 56 := .of rfl rfl
theorem no_reversed : nsIn (hd.heap_39 w.params) mainGlobals (Str.ofString "reversed") = some none := by rfl

theorem cal_div2n1n {a b n : Int} (h1 : (Builtin.Int.intBits a : Int) - n ≤ 4000) (hb : 0 < b) (hp : b.natAbs.log2 < 9000) : Cal w (k + 1) q (.ref 21) [.int a, .int b, .int n] (.tup [.int (a / b), .int (a % b)]) := by
  refine Cal.defn (xs := [Str.ofString "a", Str.ofString "b", Str.ofString "n"]) (by rfl) (by rfl) (by rfl) (by rfl) (by rfl) (by rfl) (by decide) (by decide) ?_ ?_
  · intro vs hv
    obtain ⟨_, _, _, rfl⟩ := len3 hv
    rfl
  · intro h₀ L av
    refine Ex.iff (Tr.cmp (Ev.bin (Ev.meth0 (Ev.name rfl) Get.bits Cal.bits) (Ev.name rfl) Bin.sub) (Ev.globI (i := 4000) rfl rfl) Cmp.leI) (fun hc => ?_) (fun hc => ?_)
    · exact Ex.ret (Ev.calb boot_divmod (Evs.cons (Ev.name rfl) (Evs.cons (Ev.name rfl) .nil)) (Cal.divmod hb hp)) fun v hp r F => ⟨v, rfl, r, F.ext⟩
    · simp at hc; omega

noncomputable def hiD (n : Nat) (ds : List Int) (i : Nat) : Int := dval n (ds.take i).reverse
theorem hiD_succ {n : Nat} {ds : List Int} {i : Nat} {x : Int} (h : ds[i]? = some x) : hiD n ds (i + 1) = x + 2 ^ n * hiD n ds i := by
  unfold hiD
  rw [List.take_add_one, h, List.reverse_append]; rfl

noncomputable def dpInv (n : Nat) (b : Nat) (ds : List Int) (A : Addr) (i : Nat) (σ : Sg) (ω : Om) : Prop :=
  ∃ (qs : List Int) (r : Int), ω = some (Str.ofString "q_digits", A, qs.map .int) ∧ σ (Str.ofString "r") = some (.int r) ∧ σ (Str.ofString "n") = some (.int n) ∧ σ (Str.ofString "b") = some (.int b) ∧ qs.length = i ∧ (∀ q ∈ qs, 0 ≤ q ∧ q < 2 ^ n) ∧ dval n qs.reverse = hiD n ds i / b ∧ r = hiD n ds i % b

theorem cal_divpos {a b n : Nat} (hn : n = Builtin.Int.intBits (b : Int)) (hb : 1 ≤ b) (hba : Builtin.Int.intBits (a : Int) ≤ 900) (hbb : n ≤ 900) : Cal w (k + cnt a n + 6) false (.ref 49) [.int a, .int b] (.tup [.int ((a : Int) / b), .int ((a : Int) % b)]) := by
  have hbl : b < 2 ^ n := hn ▸ lt_bits b
  have hn1 : 1 ≤ n := by
    rcases Nat.eq_zero_or_pos n with h | h
    · rw [h] at hbl; exact absurd hb (Nat.not_le.mpr hbl)
    · exact h
  have hc1 : n * cnt a n ≤ 2000 := Nat.le_trans (cnt_le hn1) (Nat.le_trans (Nat.sub_le _ _) (Nat.le_trans (Nat.add_le_add hba hbb) (by decide)))
  have hc2 : cnt a n ≤ 1000 := by
    have := Nat.div_le_self (Builtin.Int.intBits (a : Int) + n - 1) n
    have : cnt a n ≤ n * cnt a n := Nat.le_mul_of_pos_left _ hn1
    have h3 : n * cnt a n ≤ Builtin.Int.intBits (a : Int) + n - 1 := cnt_le hn1
    unfold cnt at *
    rcases Nat.lt_or_ge n 2 with h | h
    · have : n = 1 := Nat.le_antisymm (Nat.le_of_lt_succ h) hn1
      subst this; simp at *; omega
    · have : (Builtin.Int.intBits (a : Int) + n - 1) / n ≤ (Builtin.Int.intBits (a : Int) + n - 1) / 2 := Nat.div_le_div_left h (by decide)
      omega
  have hlog : (b : Int).natAbs.log2 < 9000 := by
    rw [Int.natAbs_natCast]
    exact Nat.lt_of_lt_of_le ((Nat.log2_lt (Nat.ne_of_gt hb)).mpr hbl) (Nat.le_trans hbb (by decide))
  have bpos : (0 : Int) < (b : Int) := Int.ofNat_lt.mpr hb
  have hbI : (b : Int) < 2 ^ n := by exact_mod_cast hbl
  refine Cal.defn (xs := [Str.ofString "a", Str.ofString "b"]) (by rfl) (by rfl) (by rfl) (by rfl) (by rfl) (by rfl) (by decide) (by decide) ?_ ?_
  · intro vs hv
    obtain ⟨_, _, rfl⟩ := len2 hv
    rfl
  · intro h₀ L av
    refine Ex.assign (d := .int (n : Nat)) (by rw [hn]; exact Ev.meth0 (Ev.name rfl) Get.bits Cal.bits) ⟨.inl rfl, by decide⟩ ?_
    refine Ex.assign (Ev.calld at_i2d (Evs.cons (Ev.name rfl) (Evs.cons (Ev.name rfl) .nil)) (cal_i2d hn1 (by omega) hc2 (by omega) (lt_cnt hn1))) ⟨.inl rfl, by decide⟩ ?_
    refine Ex.assign Ev.int ⟨.inl rfl, by decide⟩ ?_
    refine Ex.new ⟨.inl rfl, by decide⟩ fun A hA => ?_
    have hlen : ((digs n (cnt a n) a).map D.int).reverse.length = cnt a n := by simp [digs_len]
    refine Ex.forW (ds := ((digs n (cnt a n) a).map D.int).reverse) (fun d σ => σ.set (Str.ofString "a_digit") d) (dpInv n b (digs n (cnt a n) a).reverse A) (fun _ => False) (Lps.of (It.rev (Ev.name rfl) no_reversed)) ⟨[], 0, rfl, rfl, rfl, rfl, rfl, (fun q h => by cases h), by simp [hiD, dval], by simp [hiD, dval]⟩ ?_ ?_ ?_ (fun _ h => h.elim)
    · rintro i d σ' ω' hd ⟨qs, r, rfl, _⟩
      exact Tgt.name ⟨.inl rfl, by decide⟩ (by intro p e; cases e; show Str.ofString "q_digits" ≠ _; decide)
    · rintro i d σ' ω' hd ⟨qs, r, rfl, hr, hnn, hbb', hl, hq, h1, h2⟩
      rw [← List.map_reverse, List.getElem?_map] at hd
      obtain ⟨x, hx, rfl⟩ : ∃ x, (digs n (cnt a n) a).reverse[i]? = some x ∧ d = .int x := by
        cases e : (digs n (cnt a n) (a : Int)).reverse[i]? with
        | none => rw [e] at hd; cases hd
        | some x => rw [e] at hd; cases hd; exact ⟨x, rfl, rfl⟩
      have hi : i < cnt a n := by
        have := (List.getElem?_eq_some_iff.mp hx).1
        rw [List.length_reverse, digs_len] at this; exact this
      obtain ⟨hx0, hx1⟩ := digs_bd n _ _ x (List.mem_reverse.mp (List.mem_of_getElem? hx))
      have hr0 : 0 ≤ r := h2 ▸ Int.emod_nonneg _ (Int.ne_of_gt bpos)
      have hr1 : r < b := h2 ▸ Int.emod_lt_of_pos _ bpos
      obtain ⟨s0, s1, s2⟩ := step_lt (n := n) bpos hr0 hr1 hx0 hx1
      obtain ⟨t1, t2⟩ := step_div (n := n) bpos h1 h2 hx0
      rw [← hiD_succ hx] at t1 t2
      have hbits : (Builtin.Int.intBits (r * 2 ^ n + x) : Int) - n ≤ 4000 := by
        obtain ⟨y, hy⟩ := Int.eq_ofNat_of_zero_le s0
        have : y < 2 ^ (n + n) := by
          have e : (y : Int) < ((2 ^ (n + n) : Nat) : Int) := by
            rw [← hy, Nat.pow_add]; push_cast
            exact Int.lt_of_lt_of_le s1 (Int.mul_le_mul_of_nonneg_right (Int.le_of_lt hbI) (Int.le_of_lt (pow_pos2 n)))
          exact_mod_cast e
        rw [hy]
        have := bits_le this
        omega
      have hrs : r.natAbs < 2 ^ 10000 := by
        refine Nat.lt_of_lt_of_le (natAbs_lt (n := n) hr0 ?_) (Nat.pow_le_pow_right (by decide) (by omega))
        exact Int.lt_trans hr1 hbI
      refine Ex.tupP (xs := [Str.ofString "q_digit", Str.ofString "r"]) (Ev.calld at_div2n1n (Evs.cons (Ev.bin (Ev.bin (Ev.name hr) (Ev.name hnn) (Bin.shl (Int.natCast_nonneg _) (by omega) hrs)) (Ev.name rfl) Bin.add) (Evs.cons (Ev.name hbb') (Evs.cons (Ev.name hnn) .nil))) (cal_div2n1n hbits bpos hlog)) (sto_assign ⟨.inl rfl, by decide⟩ (sto_assign ⟨.inl rfl, by decide⟩ sto_nil)) rfl ?_ (by
        intro x hx p e; cases e
        rcases List.mem_cons.mp hx with rfl | hx
        · show Str.ofString "q_digits" ≠ _; decide
        · rcases List.mem_cons.mp hx with rfl | hx
          · show Str.ofString "q_digits" ≠ _; decide
          · cases hx)
      refine Ex.app (Ev.name rfl) (by rw [List.length_map]; show _ ≤ 16777216; omega) (Ex.nil fun hp F => ?_)
      refine ⟨_, _, ?_, F⟩
      refine ⟨qs ++ [(r * 2 ^ n + x) / b], (r * 2 ^ n + x) % b, by simp, rfl, hnn, hbb', by simp [hl], ?_, ?_, t2⟩
      · intro y hy
        rcases List.mem_append.mp hy with hy | hy
        · exact hq y hy
        · rcases List.mem_cons.mp hy with rfl | hy
          · exact ⟨Int.ediv_nonneg s0 (Int.le_of_lt bpos), s2⟩
          · cases hy
      · rw [List.reverse_append]; exact t1
    · rintro σ' ω' ⟨qs, r, rfl, hr, hnn, hbb', hl, hq, h1, h2⟩
      rw [hlen] at hl h1 h2
      have hval : hiD n (digs n (cnt a n) a).reverse (cnt a n) = a := by
        unfold hiD
        rw [List.take_of_length_le (by rw [List.length_reverse, digs_len]; exact Nat.le_refl _), List.reverse_reverse]
        exact dval_digs n _ _ (Int.natCast_nonneg _) (by exact_mod_cast lt_cnt hn1)
      rw [hval] at h1 h2
      refine Ex.nil fun hp F => ⟨_, _, F, ?_⟩
      refine Ex.rev (by rw [List.length_map]; show _ ≤ 16777216; omega) ?_
      rw [← List.map_reverse]
      refine Ex.rel hA ?_
      have hd2 := cal_d2i (w := w) (k := k + 1) (xs := qs.reverse) (n := n) (by rw [List.length_reverse, hl]; omega) (by rw [List.length_reverse, hl]; omega) (fun d hd => hq d (List.mem_reverse.mp hd))
      rw [List.length_reverse, hl, h1, Nat.add_right_comm k 1] at hd2
      refine Ex.assign (Ev.calld at_d2i (Evs.cons (Ev.name rfl) (Evs.cons (Ev.name hnn) .nil)) hd2) ⟨.inl rfl, by decide⟩ ?_
      rw [h2] at hr
      exact Ex.retD (Ev.tup (Evs.cons (Ev.name rfl) (Evs.cons (Ev.name hr) .nil)))
end
end Mine

set_option maxRecDepth 100000
set_option maxHeartbeats 1000000
namespace Mine
section
variable {w : Wd} {k : Nat} {q : Bool}
theorem cal_idm {a b n : Nat} (hn : n = Builtin.Int.intBits (b : Int)) (hb : 1 ≤ b) (hba : Builtin.Int.intBits (a : Int) ≤ 900) (hbb : n ≤ 900) : Cal w (k + cnt a n + 7) false (.ref 56) [.int a, .int b] (.tup [.int ((a : Int) / b), .int ((a : Int) % b)]) := by
  refine Cal.defn (xs := [Str.ofString "a", Str.ofString "b"]) (by rfl) (by rfl) (by rfl) (by rfl) (by rfl) (by rfl) (by decide) (by decide) ?_ ?_
  · intro vs hv
    obtain ⟨_, _, rfl⟩ := len2 hv
    rfl
  · intro h₀ L av
    refine Ex.iff (Tr.cmp (Ev.name rfl) Ev.int Cmp.eqI) (fun hc => ?_) (fun hc => ?_)
    · exact absurd (Int.ofNat_inj.mp (beq_iff_eq.mp hc)) (Nat.ne_of_gt hb)
    refine Ex.iff (Tr.cmp (Ev.name rfl) Ev.int Cmp.ltI) (fun hc => ?_) (fun hc => ?_)
    · exact absurd (of_decide_eq_true hc) (Int.not_lt.mpr (Int.natCast_nonneg _))
    refine Ex.iff (Tr.cmp (Ev.name rfl) Ev.int Cmp.ltI) (fun hc => ?_) (fun hc => ?_)
    · exact absurd (of_decide_eq_true hc) (Int.not_lt.mpr (Int.natCast_nonneg _))
    exact Ex.ret (Ev.calld at_divpos (Evs.cons (Ev.name rfl) (Evs.cons (Ev.name rfl) .nil)) (cal_divpos hn hb hba hbb)) fun v hp r F => ⟨v, rfl, r, F.ext⟩

theorem neg_div {m b : Int} (hb : 0 < b) : -(m / b) - 1 = (-m - 1) / b ∧ b + (-(m % b) - 1) = (-m - 1) % b := by
  have h1 := Int.emod_add_mul_ediv m b
  have h2 := Int.emod_nonneg m (Int.ne_of_gt hb)
  have h3 := Int.emod_lt_of_pos m hb
  generalize m % b = r at *
  generalize m / b = c at *
  subst h1
  have e : -(r + b * c) - 1 = (b - 1 - r) + b * (-c - 1) := by
    rw [Int.mul_sub, Int.mul_neg, Int.mul_one]; omega
  have k1 : 0 ≤ b - 1 - r := Int.sub_nonneg.mpr (Int.le_sub_one_of_lt h3)
  have k2 : b - 1 - r < b := Int.lt_of_le_of_lt (Int.sub_le_self _ h2) (Int.sub_lt_self b (by decide))
  rw [e, Int.add_mul_ediv_left _ _ (Int.ne_of_gt hb), Int.add_mul_emod_self_left, Int.ediv_eq_zero_of_lt k1 k2, Int.emod_eq_of_lt k1 k2]
  exact ⟨(Int.zero_add _).symm, by rw [← Int.add_sub_assoc, ← Int.sub_eq_add_neg, Int.sub_sub, Int.sub_sub, Int.add_comm r]⟩

theorem cal_idmN {m b n : Nat} (hn : n = Builtin.Int.intBits (b : Int)) (hb : 1 ≤ b) (hba : Builtin.Int.intBits (m : Int) ≤ 900) (hbb : n ≤ 900) : Cal w (k + cnt m n + 8) false (.ref 56) [.int (-(m : Int) - 1), .int b] (.tup [.int ((-(m : Int) - 1) / b), .int ((-(m : Int) - 1) % b)]) := by
  have bpos : (0 : Int) < (b : Int) := Int.ofNat_lt.mpr hb
  obtain ⟨e1, e2⟩ := neg_div (m := (m : Int)) bpos
  refine Cal.defn (xs := [Str.ofString "a", Str.ofString "b"]) (by rfl) (by rfl) (by rfl) (by rfl) (by rfl) (by rfl) (by decide) (by decide) ?_ ?_
  · intro vs hv
    obtain ⟨_, _, rfl⟩ := len2 hv
    rfl
  · intro h₀ L av
    refine Ex.iff (Tr.cmp (Ev.name rfl) Ev.int Cmp.eqI) (fun hc => ?_) (fun hc => ?_)
    · exact absurd (Int.ofNat_inj.mp (beq_iff_eq.mp hc)) (Nat.ne_of_gt hb)
    refine Ex.iff (Tr.cmp (Ev.name rfl) Ev.int Cmp.ltI) (fun hc => ?_) (fun hc => ?_)
    · exact absurd (of_decide_eq_true hc) (Int.not_lt.mpr (Int.natCast_nonneg _))
    refine Ex.iff (Tr.cmp (Ev.name rfl) Ev.int Cmp.ltI) (fun hc => ?_) (fun hc => ?_)
    · have hm : -(-(m : Int) - 1) - 1 = (m : Int) := by rw [Int.neg_sub, Int.sub_neg, Int.add_comm 1, Int.add_sub_cancel]
      refine Ex.tupP (xs := [Str.ofString "q", Str.ofString "r"]) (ds := [.int ((m : Int) / b), .int ((m : Int) % b)]) (Ev.calld at_intdivmod (Evs.cons (Ev.inv (Ev.name rfl)) (Evs.cons (Ev.name rfl) .nil)) (by rw [hm]; exact cal_idm hn hb hba hbb)) (sto_assign ⟨.inl rfl, by decide⟩ (sto_assign ⟨.inl rfl, by decide⟩ sto_nil)) rfl ?_
      rw [← e1, ← e2]
      exact Ex.ret (Ev.tup (Evs.cons (Ev.inv (Ev.name rfl)) (Evs.cons (Ev.bin (Ev.name rfl) (Ev.inv (Ev.name rfl)) Bin.add) .nil))) fun v hp r F => ⟨v, rfl, r, F.ext⟩
    · exact absurd (Int.sub_neg_of_lt (Int.lt_of_le_of_lt (Int.neg_nonpos_of_nonneg (Int.natCast_nonneg m)) (by decide))) (of_decide_eq_false hc)

/-! _law_eight -/
theorem digs_zero (n : Nat) : ∀ c, digs n c 0 = List.replicate c 0
  | 0 => rfl
  | c + 1 => by rw [digs, Int.zero_emod, Int.zero_ediv, digs_zero n c]; rfl
theorem digs_pad {n c d : Nat} {x : Int} (h0 : 0 ≤ x) (hx : x < 2 ^ (n * c)) : digs n (c + d) x = digs n c x ++ List.replicate d 0 := by
  rw [Nat.mul_comm] at hx
  rw [digs_add, Int.emod_eq_of_lt h0 hx, Int.ediv_eq_zero_of_lt h0 hx, digs_zero]
theorem digs_last {n c : Nat} {x : Int} : digs n (c + 1) x = digs n c (x % 2 ^ (c * n)) ++ [x / 2 ^ (c * n) % 2 ^ n] := by
  rw [digs_add]; rfl
theorem top_ne {m n c : Nat} (hn : 1 ≤ n) (hc : cnt m n = c + 1) : (m : Int) / 2 ^ (c * n) % 2 ^ n ≠ 0 := by
  have h1 : m < 2 ^ (n * (c + 1)) := hc ▸ lt_cnt hn
  have h2 : n * (c + 1) ≤ Builtin.Int.intBits (m : Int) + n - 1 := hc ▸ cnt_le hn
  have h3 : c * n + 1 ≤ Builtin.Int.intBits (m : Int) := by rw [Nat.mul_succ, Nat.mul_comm] at h2; omega
  have h4 : 2 ^ (c * n) ≤ m := by
    unfold Builtin.Int.intBits at h3
    split at h3
    · exact absurd h3 (Nat.not_succ_le_zero _)
    · rename_i hx
      have hx0 : m ≠ 0 := fun e => hx (by rw [e]; rfl)
      rw [Int.natAbs_natCast] at h3
      exact Nat.le_trans (Nat.pow_le_pow_right (by decide) (Nat.le_of_succ_le_succ h3)) (Nat.log2_self_le hx0)
  have h5 : m / 2 ^ (c * n) < 2 ^ n := Nat.div_lt_of_lt_mul (by rw [← Nat.pow_add, Nat.mul_comm c n, ← Nat.mul_succ]; exact h1)
  have h6 : 0 < m / 2 ^ (c * n) := Nat.div_pos h4 (Nat.pow_pos (by decide))
  have e : (m : Int) / 2 ^ (c * n) % 2 ^ n = ((m / 2 ^ (c * n) % 2 ^ n : Nat) : Int) := by push_cast; rfl
  rw [e, Nat.mod_eq_of_lt h5]
  exact fun e => Nat.ne_of_gt h6 (Int.ofNat_inj.mp e)
theorem pys_ints : ∀ xs : List Int, D.pys (xs.map D.int) = xs.map PyData.int
  | [] => by simp [D.pys]
  | x :: xs => by rw [List.map_cons, D.pys, pys_ints xs, D.py]; rfl
theorem lay_ints : ∀ xs : List Int, PyData.canLayAll0 (xs.map .int) = true ∧ PyData.depthAll (xs.map .int) = 0
  | [] => by simp [PyData.canLayAll0, PyData.depthAll]
  | x :: xs => by
    obtain ⟨h1, h2⟩ := lay_ints xs
    simp [PyData.canLayAll0, PyData.canLay0, PyData.depthAll, PyData.depth, h1, h2]
theorem shaped_ints (xs : List Int) : SeqAt.shaped (intsD xs).py = true := by
  obtain ⟨h1, h2⟩ := lay_ints xs
  simp [SeqAt.shaped, intsD, D.py, pys_ints, PyData.canLay0, PyData.depth, h1, h2]
theorem eqv_ints : ∀ xs ys : List Int, PyData.eqvAll (xs.map .int) (ys.map .int) = decide (xs = ys)
  | [], [] => by simp [PyData.eqvAll]
  | [], _ :: _ => by simp [PyData.eqvAll]
  | _ :: _, [] => by simp [PyData.eqvAll]
  | x :: xs, y :: ys => by
    simp only [List.map_cons, PyData.eqvAll, PyData.eqv, eqv_ints xs ys]
    by_cases h : x = y <;> simp [h]
theorem eqvI (xs ys : List Int) : PyData.eqv (intsD xs).py (intsD ys).py = decide (xs = ys) := by
  simp only [intsD, D.py, pys_ints, PyData.eqv, eqv_ints]
theorem Cmp.eqL {xs ys : List Int} : Cmp w k .Eq (intsD xs) (intsD ys) (decide (xs = ys)) := by
  have := Cmp.eqD (w := w) (k := k) (shaped_ints xs) (shaped_ints ys)
  rw [eqvI] at this; exact this
theorem Cmp.neL {xs ys : List Int} : Cmp w k .NotEq (intsD xs) (intsD ys) (!decide (xs = ys)) := by
  have := Cmp.neD (w := w) (k := k) (shaped_ints xs) (shaped_ints ys)
  rw [eqvI] at this; exact this
theorem Ev.sliceE {av : List Addr} {env : Env} {σ : Sg} {v : Expr} {a b : Option Expr} {p pos : Pos} {xs ys : List D} {lo hi : Option Int} (he : cutL xs lo hi = ys) (hv : Ev w av k q env σ v (.list xs)) (ha : Prt w av k q env σ a lo) (hb : Prt w av k q env σ b hi) (hz : xs.length ≤ sizeLine)
    (ht : autoParam (∀ o r, letTemporaryGo v o r = pure ()) PySem.Subscript_Name._auto_1) : Ev w av k q env σ (.Subscript v (.Slice a b none p) pos) (.list ys) := he ▸ Ev.sliceL hv ha hb hz ht
theorem cut_last {xs : List Int} {t : Int} : cutL ((xs ++ [t]).map D.int) (some (-1)) none = [D.int t] := by
  unfold cutL
  have e : clipAt ((xs ++ [t]).map D.int).length (-1) = xs.length := by simp [clipAt]; omega
  simp only [Option.elim, e]
  simp
theorem cut_nil : cutL (([] : List Int).map D.int) (some (-1)) none = [] := by simp [cutL]

theorem cnt_le8' {a n : Nat} (hn : 1 ≤ n) (h : a < 2 ^ (n * 8)) : cnt a n ≤ 8 := by
  have h1 := bits_le h
  have : cnt a n ≤ (n * 8 + (n - 1)) / n := Nat.div_le_div_right (by rw [Nat.add_sub_assoc hn]; exact Nat.add_le_add_right h1 _)
  rw [Nat.mul_add_div hn, Nat.div_eq_of_lt (Nat.sub_lt hn (by decide))] at this
  exact this
theorem room8 {k c : Nat} (h : c ≤ 8) : k + 8 - c + c + 5 = k + 8 + 5 := congrArg (· + 5) (Nat.sub_add_cancel (Nat.le_trans h (Nat.le_add_left 8 k)))
theorem at_eight : DefAt w (Str.ofString "_law_eight") 136 := .of rfl rfl
theorem cal_eight {m n : Nat} (hn1 : 1 ≤ n) (hn2 : n ≤ 200) (hm : m < 2 ^ (n * 8)) : Cal w (k + 8 + 6) false (.ref 136) [.int m, .int n] (intsD (digs n 8 m)) := by
  have hc : cnt m n ≤ 8 := cnt_le8' hn1 hm
  refine Cal.defn (k := k + 8 + 5) (xs := [Str.ofString "number", Str.ofString "wide"]) (by rfl) (by rfl) (by rfl) (by rfl) (by rfl) (by rfl) (by decide) (by decide) ?_ ?_
  · intro vs hv
    obtain ⟨_, _, rfl⟩ := len2 hv
    rfl
  · intro h₀ L av
    have hcal := cal_i2d (w := w) (k := k + 8 - cnt m n) (a := m) (n := n) hn1 (Nat.le_trans hn2 (by decide)) (Nat.le_trans hc (by decide)) (Nat.le_trans (Nat.mul_le_mul_left _ hc) (Nat.le_trans (Nat.mul_le_mul_right 8 hn2) (by decide))) (lt_cnt hn1)
    rw [room8 hc] at hcal
    refine Ex.assign (Ev.calld at_i2d (Evs.cons (Ev.name rfl) (Evs.cons (Ev.name rfl) .nil)) hcal) ⟨.inl rfl, by decide⟩ ?_
    have hne : ∃ ys : List Int, cutL ((digs n (cnt m n) (m : Int)).map D.int) (some (-1)) none = ys.map D.int ∧ ys ≠ [0] := by
      cases h : cnt m n with
      | zero => exact ⟨[], cut_nil, by simp⟩
      | succ c =>
        rw [digs_last]
        exact ⟨[_], cut_last, fun e => top_ne hn1 h (List.cons.inj e).1⟩
    obtain ⟨ys, hy, hy0⟩ := hne
    have hpad := digs_pad (n := n) (c := cnt m n) (d := 8 - cnt m n) (x := (m : Int)) (Int.natCast_nonneg _) (by exact_mod_cast lt_cnt hn1)
    rw [Nat.add_sub_cancel' hc] at hpad
    have hlen : ((digs n (cnt m n) (m : Int)).map D.int).length = cnt m n := by rw [List.length_map, digs_len]
    rw [hpad]
    refine Ex.retD (Ev.ite (Tr.cmp (Ev.sliceE hy (Ev.name rfl) (Ev.neg Ev.int) trivial (by rw [hlen]; exact Nat.le_trans hc (by decide))) (Ev.list (Evs.cons Ev.int .nil)) (Cmp.eqL (xs := ys) (ys := [0]))) (fun hq => ?_) (fun hq => ?_))
    · exact absurd (of_decide_eq_true hq) hy0
    · have hsub : (8 : Int) - ((((digs n (cnt m n) (m : Int)).map D.int).length : Nat) : Int) = ((8 - cnt m n : Nat) : Int) := by rw [hlen]; exact (Int.ofNat_sub hc).symm
      have e : intsD (digs n (cnt m n) (m : Int) ++ List.replicate (8 - cnt m n) 0) = .list ((digs n (cnt m n) (m : Int)).map D.int ++ List.replicate ((8 : Int) - ((((digs n (cnt m n) (m : Int)).map D.int).length : Nat) : Int)).toNat (.int 0)) := by
        rw [hsub, Int.toNat_natCast]; simp [intsD]
      rw [e]
      exact Ev.bin (Ev.name rfl) (Ev.bin (Ev.list (Evs.cons Ev.int .nil)) (Ev.bin Ev.int (Ev.calb boot_len (Evs.cons (Ev.name rfl) .nil) (Cal.len (by rw [hlen]; exact Nat.lt_of_le_of_lt hc (by decide)))) Bin.sub) (Bin.mulL (by rw [hsub]; exact Int.natCast_nonneg _) (by rw [hsub]; omega))) (Bin.addL (by rw [hsub, hlen, List.length_replicate, Int.toNat_natCast]; show _ ≤ 16777216; omega))
end
end Mine

set_option maxRecDepth 100000
set_option maxHeartbeats 1000000
namespace Mine

theorem and_two_pow' (n j : Nat) : n &&& 2 ^ j = 2 ^ j * (n.testBit j).toNat := by
  cases h : n.testBit j with
  | false =>
    show _ = 2 ^ j * 0
    rw [Nat.mul_zero]
    apply Nat.eq_of_testBit_eq
    intro i
    rw [Nat.testBit_and, Nat.testBit_two_pow, Nat.zero_testBit]
    by_cases e : j = i
    · subst e; rw [h]; rfl
    · simp [e]
  | true =>
    show _ = 2 ^ j * 1
    rw [Nat.mul_one]
    apply Nat.eq_of_testBit_eq
    intro i
    rw [Nat.testBit_and, Nat.testBit_two_pow]
    by_cases e : j = i
    · subst e; rw [h]; simp
    · simp [e]
theorem nat_split (n b : Nat) {j : Nat} (hb : b < 2 ^ j) : n &&& (2 ^ j + b) = (n &&& 2 ^ j) + (n &&& b) := by
  have h1 := Nat.two_pow_add_eq_or_of_lt hb 1
  rw [Nat.mul_one] at h1
  have h2 : n &&& b < 2 ^ j := Nat.lt_of_le_of_lt Nat.and_le_right hb
  have h3 : n &&& 2 ^ j = 2 ^ j * (n.testBit j).toNat := and_two_pow' n j
  rw [h1, Nat.and_or_distrib_left, h3, Nat.two_pow_add_eq_or_of_lt h2]
theorem and_split (m : Int) {b j : Nat} (hb : b < 2 ^ j) : Builtin.bitAnd m ((2 ^ j + b : Nat) : Int) = Builtin.bitAnd m ((2 ^ j : Nat) : Int) + Builtin.bitAnd m (b : Int) := by
  by_cases hm : 0 ≤ m
  · rw [bitAnd_pp hm (Int.natCast_nonneg _), bitAnd_pp hm (Int.natCast_nonneg _), bitAnd_pp hm (Int.natCast_nonneg _)]
    simp only [Int.toNat_natCast]
    rw [nat_split _ _ hb]; push_cast; rfl
  · rw [bitAnd_np hm (Int.natCast_nonneg _), bitAnd_np hm (Int.natCast_nonneg _), bitAnd_np hm (Int.natCast_nonneg _)]
    simp only [Int.toNat_natCast]
    rw [Nat.and_comm, nat_split _ _ hb, Nat.and_comm _ (2 ^ j), Nat.and_comm _ b]; push_cast; omega
theorem and_bit (m : Int) (j : Nat) : Builtin.bitAnd m ((2 ^ j : Nat) : Int) = 2 ^ j * (m / 2 ^ j % 2) := by
  have key : ∀ n : Nat, ((n &&& 2 ^ j : Nat) : Int) = 2 ^ j * ((n : Int) / 2 ^ j % 2) := fun n => by
    rw [and_two_pow', Nat.testBit_eq_decide_div_mod_eq]
    have e : ((n : Int) / 2 ^ j % 2) = ((n / 2 ^ j % 2 : Nat) : Int) := by push_cast; rfl
    rw [e]
    rcases Nat.mod_two_eq_zero_or_one (n / 2 ^ j) with h | h <;> rw [h] <;> simp
  by_cases hm : 0 ≤ m
  · obtain ⟨n, rfl⟩ := Int.eq_ofNat_of_zero_le hm
    rw [bitAnd_pp hm (Int.natCast_nonneg _), Int.toNat_natCast, Int.toNat_natCast]
    exact key n
  · rw [bitAnd_np hm (Int.natCast_nonneg _), Int.toNat_natCast, Nat.and_comm, key]
    have hn : ((Builtin.bitNot m).toNat : Int) = -m - 1 := by
      rw [Int.toNat_of_nonneg] <;> (show _ ; unfold Builtin.bitNot; omega)
    rw [hn]
    have e := (neg_div (m := m) (pow_pos2 j)).1
    rw [← e]
    push_cast
    have h2 := pow_pos2 j
    rcases Int.emod_two_eq (m / 2 ^ j) with h | h
    · rw [h, show (-(m / 2 ^ j) - 1) % 2 = 1 by omega]; omega
    · rw [h, show (-(m / 2 ^ j) - 1) % 2 = 0 by omega]; omega

theorem bit_at (m : Int) (j : Nat) (c : Int) (hc : c = ((2 ^ j : Nat) : Int)) : Builtin.bitAnd m c = 2 ^ j * (m / 2 ^ j % 2) := hc ▸ and_bit m j
theorem bits_cut (n k : Int) : 2 * (n / 2 % k) + n % 2 = n % (2 * k) := by
  have h := Int.emod_add_mul_ediv n (2 * k)
  rw [← Int.ediv_ediv_of_nonneg (by decide), Int.mul_assoc] at h
  have h2 := Int.emod_add_mul_ediv (n / 2) k
  have h3 := Int.emod_add_mul_ediv n 2
  rw [← h2, Int.mul_add] at h3
  omega
theorem three_bits (g : Int) : 4 * (g / 4 % 2) + (2 * (g / 2 % 2) + g % 2) = g % 8 := by
  have b : 2 * (g / 2 / 2 % 2) + g / 2 % 2 = g / 2 % 4 := bits_cut (g / 2) 2
  have a : 2 * (g / 2 % 4) + g % 2 = g % 8 := bits_cut g 4
  rw [← b, Int.ediv_ediv_of_nonneg (by decide), Int.mul_add, Int.add_assoc, ← Int.mul_assoc] at a
  exact a
theorem four_bits (n : Int) : 8 * (n / 8 % 2) + (4 * (n / 4 % 2) + (2 * (n / 2 % 2) + n % 2)) = n % 16 := by
  have a : 2 * (n / 2 % 8) + n % 2 = n % 16 := bits_cut n 8
  rw [← three_bits (n / 2), Int.ediv_ediv_of_nonneg (by decide), Int.ediv_ediv_of_nonneg (by decide), Int.mul_add, Int.mul_add, ← Int.mul_assoc, ← Int.mul_assoc, Int.add_assoc, Int.add_assoc] at a
  exact a
theorem div_div (m : Int) (a b c : Nat) (h : a * b = c) : m / (a : Int) / (b : Int) = m / (c : Int) := by
  rw [Int.ediv_ediv_of_nonneg (Int.natCast_nonneg a), ← h]; push_cast; rfl
theorem row_eq (m : Int) : perms m 10 = rowOf m := by
  have b0 : Builtin.bitAnd m 1 = m % 2 := by have := bit_at m 0 1 rfl; simpa using this
  have b1 : Builtin.bitAnd m 2 = 2 * (m / 2 % 2) := bit_at m 1 2 rfl
  have b2 : Builtin.bitAnd m 4 = 4 * (m / 4 % 2) := bit_at m 2 4 rfl
  have b3 : Builtin.bitAnd m 8 = 8 * (m / 8 % 2) := bit_at m 3 8 rfl
  have b4 : Builtin.bitAnd m 16 = 16 * (m / 16 % 2) := bit_at m 4 16 rfl
  have b5 : Builtin.bitAnd m 32 = 32 * (m / 32 % 2) := bit_at m 5 32 rfl
  have b6 : Builtin.bitAnd m 64 = 64 * (m / 64 % 2) := bit_at m 6 64 rfl
  have b7 : Builtin.bitAnd m 128 = 128 * (m / 128 % 2) := bit_at m 7 128 rfl
  have b8 : Builtin.bitAnd m 256 = 256 * (m / 256 % 2) := bit_at m 8 256 rfl
  have b9 : Builtin.bitAnd m 512 = 512 * (m / 512 % 2) := bit_at m 9 512 rfl
  have b10 : Builtin.bitAnd m 1024 = 1024 * (m / 1024 % 2) := bit_at m 10 1024 rfl
  have b11 : Builtin.bitAnd m 2048 = 2048 * (m / 2048 % 2) := bit_at m 11 2048 rfl
  have b12 : Builtin.bitAnd m 4096 = 4096 * (m / 4096 % 2) := bit_at m 12 4096 rfl
  have b13 : Builtin.bitAnd m 8192 = 8192 * (m / 8192 % 2) := bit_at m 13 8192 rfl
  have b14 : Builtin.bitAnd m 16384 = 16384 * (m / 16384 % 2) := bit_at m 14 16384 rfl
  have b15 : Builtin.bitAnd m 32768 = 32768 * (m / 32768 % 2) := bit_at m 15 32768 rfl
  have c1 : Builtin.bitAnd m 2112 = 2048 * (m / 2048 % 2) + 64 * (m / 64 % 2) := by rw [← b11, ← b6]; exact and_split m (b := 64) (j := 11) (by decide)
  have c2 : Builtin.bitAnd m 1032 = 1024 * (m / 1024 % 2) + 8 * (m / 8 % 2) := by rw [← b10, ← b3]; exact and_split m (b := 8) (j := 10) (by decide)
  have c3 : Builtin.bitAnd m 513 = 512 * (m / 512 % 2) + m % 2 := by rw [← b9, ← b0]; exact and_split m (b := 1) (j := 9) (by decide)
  have c4 : Builtin.bitAnd m 61440 = 4096 * (m / 4096 % 16) := by
    have e1 := and_split m (b := 28672) (j := 15) (by decide)
    have e2 := and_split m (b := 12288) (j := 14) (by decide)
    have e3 := and_split m (b := 4096) (j := 13) (by decide)
    have e1' : Builtin.bitAnd m 61440 = Builtin.bitAnd m 32768 + Builtin.bitAnd m 28672 := e1
    have e2' : Builtin.bitAnd m 28672 = Builtin.bitAnd m 16384 + Builtin.bitAnd m 12288 := e2
    have e3' : Builtin.bitAnd m 12288 = Builtin.bitAnd m 8192 + Builtin.bitAnd m 4096 := e3
    rw [e1', e2', e3', b15, b14, b13, b12]
    have q8 : m / 32768 = m / 4096 / 8 := (div_div m 4096 8 32768 rfl).symm
    have q4 : m / 16384 = m / 4096 / 4 := (div_div m 4096 4 16384 rfl).symm
    have q2 : m / 8192 = m / 4096 / 2 := (div_div m 4096 2 8192 rfl).symm
    rw [q8, q4, q2, ← four_bits (m / 4096)]
    generalize m / 4096 = n
    simp only [Int.mul_add, ← Int.mul_assoc]
    rfl
  have l1 : ∀ (x : Int) (i : Nat) (c : Int) (ch : Nat), i ≠ 0 → 0 < c → Builtin.bitAnd m c = c * x → (x = 0 ∨ x = 1) → letter m i [(c, ch)] = sgn [45, ch] x := by
    intro x i c ch hi hc hb hx
    rcases hx with rfl | rfl
    · have hh : fmHit m i c = false := by unfold fmHit; rw [if_neg hi, hb, Int.mul_zero]; exact beq_eq_false_iff_ne.mpr (Int.ne_of_lt hc)
      simp only [letter, List.find?, hh, if_neg hi]; rfl
    · have hh : fmHit m i c = true := by unfold fmHit; rw [if_neg hi, hb, Int.mul_one]; exact beq_self_eq_true c
      simp only [letter, List.find?, hh]; rfl
  have l3 : ∀ (x y : Int) (i : Nat) (a b : Int) (c1 c2 c3 : Nat), i ≠ 0 → 0 < a → 0 < b → Builtin.bitAnd m (a + b) = a * y + b * x → Builtin.bitAnd m a = a * y → Builtin.bitAnd m b = b * x → (x = 0 ∨ x = 1) → (y = 0 ∨ y = 1) → letter m i [(a + b, c1), (a, c2), (b, c3)] = sgn [45, c3, c2, c1] (x + y * 2) := by
    intro x y i a b c1 c2 c3 hi ha hb h1 h2 h3 hx hy
    have hit : ∀ c v : Int, Builtin.bitAnd m c = v → fmHit m i c = (v == c) := fun c v e => by unfold fmHit; rw [if_neg hi, e]
    have ne : ∀ {u v : Int}, u ≠ v → (u == v) = false := fun h => beq_eq_false_iff_ne.mpr h
    rcases hx with rfl | rfl <;> rcases hy with rfl | rfl
    · have e1 := (hit _ _ h1).trans (ne (by omega)); have e2 := (hit _ _ h2).trans (ne (by omega)); have e3 := (hit _ _ h3).trans (ne (by omega))
      simp only [letter, List.find?, e1, e2, e3, if_neg hi]; rfl
    · have e1 := (hit _ _ h1).trans (ne (by omega)); have e2 : fmHit m i a = true := by rw [hit _ _ h2]; simp
      simp only [letter, List.find?, e1, e2]; rfl
    · have e1 := (hit _ _ h1).trans (ne (by omega)); have e2 := (hit _ _ h2).trans (ne (by omega)); have e3 : fmHit m i b = true := by rw [hit _ _ h3]; simp
      simp only [letter, List.find?, e1, e2, e3]; rfl
    · have e1 : fmHit m i (a + b) = true := by rw [hit _ _ h1]; simp
      simp only [letter, List.find?, e1]; rfl
  have two : ∀ z : Int, z % 2 = 0 ∨ z % 2 = 1 := Int.emod_two_eq
  have l0 : letter m 0 [(40960, 108), (49152, 115), (32768, 45), (24576, 98), (16384, 100), (8192, 99), (4096, 112)] = sgn kinds (m / 4096 % 16) := by
    have hit : ∀ c : Int, fmHit m 0 c = (4096 * (m / 4096 % 16) == c) := fun c => by unfold fmHit; rw [if_pos rfl, c4]
    have h0 : 0 ≤ m / 4096 % 16 := Int.emod_nonneg _ (by decide)
    have h16 : m / 4096 % 16 < 16 := Int.emod_lt_of_pos _ (by decide)
    simp only [letter, List.find?, hit]
    generalize m / 4096 % 16 = z at *
    obtain ⟨k, rfl⟩ := Int.eq_ofNat_of_zero_le h0
    have hk : k < 16 := Int.ofNat_lt.mp h16
    clear h0 h16 hit c4
    revert k
    decide +kernel
  have r1 := l1 (m / 256 % 2) 1 256 114 (by decide) (by decide) b8 (two _)
  have r2 := l1 (m / 128 % 2) 2 128 119 (by decide) (by decide) b7 (two _)
  have r3 := l3 (m / 64 % 2) (m / 2048 % 2) 3 2048 64 115 83 120 (by decide) (by decide) (by decide) c1 b11 b6 (two _) (two _)
  have r4 := l1 (m / 32 % 2) 4 32 114 (by decide) (by decide) b5 (two _)
  have r5 := l1 (m / 16 % 2) 5 16 119 (by decide) (by decide) b4 (two _)
  have r6 := l3 (m / 8 % 2) (m / 1024 % 2) 6 1024 8 115 83 120 (by decide) (by decide) (by decide) c2 b10 b3 (two _) (two _)
  have r7 := l1 (m / 4 % 2) 7 4 114 (by decide) (by decide) b2 (two _)
  have r8 := l1 (m / 2 % 2) 8 2 119 (by decide) (by decide) b1 (two _)
  have r9 := l3 (m % 2) (m / 512 % 2) 9 512 1 116 84 120 (by decide) (by decide) (by decide) (by rw [Int.one_mul]; exact c3) b9 (by rw [Int.one_mul]; exact b0) (two _) (two _)
  have e : perms m 10 = [letter m 0 (fmRows.getD 0 []), letter m 1 (fmRows.getD 1 []), letter m 2 (fmRows.getD 2 []), letter m 3 (fmRows.getD 3 []), letter m 4 (fmRows.getD 4 []), letter m 5 (fmRows.getD 5 []), letter m 6 (fmRows.getD 6 []), letter m 7 (fmRows.getD 7 []), letter m 8 (fmRows.getD 8 []), letter m 9 (fmRows.getD 9 [])] := rfl
  rw [e]
  show [letter m 0 [(40960, 108), (49152, 115), (32768, 45), (24576, 98), (16384, 100), (8192, 99), (4096, 112)], letter m 1 [(256, 114)], letter m 2 [(128, 119)], letter m 3 [(2048 + 64, 115), (2048, 83), (64, 120)], letter m 4 [(32, 114)], letter m 5 [(16, 119)], letter m 6 [(1024 + 8, 115), (1024, 83), (8, 120)], letter m 7 [(4, 114)], letter m 8 [(2, 119)], letter m 9 [(512 + 1, 116), (512, 84), (1, 120)]] = _
  rw [l0, r1, r2, r3, r4, r5, r6, r7, r8, r9]
  unfold rowOf trio
  have d1 : m / 64 / 4 % 2 = m / 256 % 2 := congrArg (· % 2) (div_div m 64 4 256 rfl)
  have d2 : m / 64 / 2 % 2 = m / 128 % 2 := congrArg (· % 2) (div_div m 64 2 128 rfl)
  have d3 : m / 8 / 4 % 2 = m / 32 % 2 := congrArg (· % 2) (div_div m 8 4 32 rfl)
  have d4 : m / 8 / 2 % 2 = m / 16 % 2 := congrArg (· % 2) (div_div m 8 2 16 rfl)
  rw [d1, d2, d3, d4]; rfl
end Mine

set_option maxRecDepth 100000
set_option maxHeartbeats 1000000
namespace Mine

theorem ad {p q : Nat} (h : p < q ∨ q < p) : p ≠ q := h.elim Nat.ne_of_lt Nat.ne_of_gt
theorem adn {n i j : Nat} (h : (i == j) = false) : n + i ≠ n + j := fun e => by rw [Nat.add_left_cancel e] at h; simp at h
theorem ada {n j : Nat} (h : (j == 0) = false) : n ≠ n + j := adn (i := 0) (n := n) (by cases j <;> simp_all)
theorem adb {n j : Nat} (h : (j == 0) = false) : n + j ≠ n := (ada h).symm
theorem adl {n j l : Nat} (h : l < n) : l ≠ n + j := Nat.ne_of_lt (Nat.lt_of_lt_of_le h (Nat.le_add_right _ _))
theorem adm {n l : Nat} (h : l < n) : l ≠ n := Nat.ne_of_lt h

noncomputable abbrev IsTri (h : Heap) (T : Addr) (a b c : Value) : Prop := h.get? T = some { cls := .type "tuple", data := .seq #[a, b, c] }

section
variable {w : Wd} {A : Around} {E : Value → Shared → Prop} {s : Shared}

theorem upd_tri {T : Addr} {a b c x : Value} {k : Nat} {Q : Unit → Shared → Prop} (hT : IsTri s.heap T a b c)
    (h : ∀ h', h'.get? T = some { cls := .type "tuple", data := .seq ((#[a, b, c] : Array Value).setIfInBounds k x) } → Heap.SameBut T s.heap h' → Q () { s with heap := h' }) :
    wpAny (model PP w.w) A (updateSeq T (·.setIfInBounds k x)) Q E s := by
  refine wpAny_updateSeq hT rfl (h _ ?_ (Heap.SameBut.update ..))
  rw [Heap.get?_update_self _ hT rfl]
  simp [Obj.mapSeq]

/-- one turn of a zip of two tuples and a text; its six objects lie from n on -/
theorem zip3Next {n l1 l2 k ch : Nat} {xs ys : Array Value} {x : Str} {t : Tok} {a b c vx vy : Value} {Q : Option Value → Shared → Prop} (a1 : l1 < n) (a2 : l2 < n)
    (hz : IsZip s.heap (n + 5) (n + 3) (n + 4) .none) (hTI : IsTri s.heap (n + 3) (.ref n) (.ref (n + 1)) (.ref (n + 2))) (hTO : IsTri s.heap (n + 4) a b c)
    (h1 : s.heap.IsTupleIter n l1 k) (h2 : s.heap.IsTupleIter (n + 1) l2 k) (h3 : s.heap.IsStrIter (n + 2) "str_ascii_iterator" x t k) (hl1 : s.heap.IsTuple l1 xs) (hl2 : s.heap.IsTuple l2 ys) (hx : xs[k]? = some vx) (hy : ys[k]? = some vy) (hc : x.cps[k]? = some ch)
    (hQ : ∀ h' u, IsZip h' (n + 5) (n + 3) (n + 4) (rawInt s.heap.objs.size) → IsTri h' (n + 3) (.ref n) (.ref (n + 1)) (.ref (n + 2)) → IsTri h' (n + 4) vx vy (.str ⟨#[ch]⟩ u) → h'.IsTupleIter n l1 (k + 1) → h'.IsTupleIter (n + 1) l2 (k + 1) → h'.IsStrIter (n + 2) "str_ascii_iterator" x t (k + 1) →
      h'.IsTuple l1 xs → h'.IsTuple l2 ys → IsTri h' s.heap.objs.size vx vy (.str ⟨#[ch]⟩ u) → (∀ c o, c ≠ n + 5 → c ≠ n + 4 → c ≠ n → c ≠ n + 1 → c ≠ n + 2 → s.heap.get? c = some o → h'.get? c = some o) → Q (some (.ref s.heap.objs.size)) { s with heap := h', toks := s.toks + 1 }) :
    wpAny (model PP w.w) A (pyNext (.ref (n + 5))) Q E s := by
  have ne : ∀ {p q : Nat}, p < q → p ≠ q := fun h => Nat.ne_of_lt h
  have hT : s.TypeIs (.ref (n + 5)) "zip" := ⟨_, hz, rfl⟩
  unfold pyNext
  refine wpAny_bind (wpAny_attempt (wpAny_callSpecial?_slot (name := Str.ofString "__next__") hT PySem.F.slot_zip_next (wpAny_call_entry PySem.F.slot_zip_next hT PySem.F.entry_zip_next ?_ (PySem.F.args_zip_next_1 _))))
  obtain ⟨hp, g, d, tk, os⟩ := s
  show wpAny _ _ (field (.ref (n + 5)) 2 >>= _) _ _ _
  refine wpAny_bind (wpAny_field hz rfl (x := .bool false) rfl ?_)
  show wpAny _ _ (field (.ref (n + 5)) 3 >>= _) _ _ _
  refine wpAny_bind (wpAny_field hz rfl (x := .ref (n + 3)) rfl ?_)
  refine wpAny_bind (wpAny_seqItems hTI rfl ?_)
  show wpAny _ _ (Builtin.SmallTypes.ownedTupleIsFree (.ref (n + 5)) >>= _) _ _ _
  refine wpAny_bind ?_
  unfold Builtin.SmallTypes.ownedTupleIsFree
  refine wpAny_bind (wpAny_field hz rfl (x := .none) rfl (wpAny_pure ?_))
  simp only [if_true]
  refine wpAny_bind (wpAny_rule ?_)
  refine wpAny_bind (wpAny_field hz rfl (x := .ref (n + 4)) rfl ?_)
  refine wpAny_bind (wpAny_setField_rec hz (by simp) fun h₁ hz₁ hs₁ => ?_)
  replace hs₁ : Heap.SameBut (n + 5) hp h₁ := hs₁
  replace hz₁ : IsZip h₁ (n + 5) (n + 3) (n + 4) .ellipsis := hz₁
  refine wpAny_bind ?_
  simp only [List.zipIdx_cons, List.zipIdx_nil, List.forIn_cons, List.forIn_nil]

  refine wpAny_bind (wpAny_bind (wpAny_onRaise ?_))
  show wpAny _ _ (Builtin.SmallTypes.nextOf (.ref n) >>= _) _ _ ⟨h₁, g, d, tk, os⟩
  refine wpAny_bind (nextTup (s := ⟨h₁, g, d, tk, os⟩) (h1.extBut hs₁.extBut (by first | exact adn rfl | exact ada rfl | exact adb rfl | exact adl (by assumption) | exact adm (by assumption) | exact ad (by omega))) (hl1.extBut hs₁.extBut (by first | exact adn rfl | exact ada rfl | exact adb rfl | exact adl (by assumption) | exact adm (by assumption) | exact ad (by omega))) hx fun h₂ h1₂ hs₂ => wpAny_pure ?_)
  replace hs₂ : Heap.SameBut n h₁ h₂ := hs₂
  have hTO₂ : IsTri h₂ (n + 4) a b c := hs₂.extBut _ _ (by first | exact adn rfl | exact ada rfl | exact adb rfl | exact adl (by assumption) | exact adm (by assumption) | exact ad (by omega)) (hs₁.extBut _ _ (by first | exact adn rfl | exact ada rfl | exact adb rfl | exact adl (by assumption) | exact adm (by assumption) | exact ad (by omega)) hTO)
  refine wpAny_bind (wpAny_seqItems (s := ⟨h₂, g, d, tk, os⟩) hTO₂ rfl ?_)
  refine wpAny_bind (upd_tri (s := ⟨h₂, g, d, tk, os⟩) hTO₂ fun h₃ hTO₃ hs₃ => ?_)
  replace hTO₃ : IsTri h₃ (n + 4) vx b c := hTO₃
  replace hs₃ : Heap.SameBut (n + 4) h₂ h₃ := hs₃
  refine wpAny_bind (wpAny_letGo (wpAny_pure ?_))

  refine wpAny_bind (wpAny_bind (wpAny_onRaise ?_))
  show wpAny _ _ (Builtin.SmallTypes.nextOf (.ref (n + 1)) >>= _) _ _ ⟨h₃, g, d, tk, os⟩
  have h2₃ : h₃.IsTupleIter (n + 1) l2 k := ((h2.extBut hs₁.extBut (by first | exact adn rfl | exact ada rfl | exact adb rfl | exact adl (by assumption) | exact adm (by assumption) | exact ad (by omega))).extBut hs₂.extBut (by first | exact adn rfl | exact ada rfl | exact adb rfl | exact adl (by assumption) | exact adm (by assumption) | exact ad (by omega))).extBut hs₃.extBut (by first | exact adn rfl | exact ada rfl | exact adb rfl | exact adl (by assumption) | exact adm (by assumption) | exact ad (by omega))
  have hl2₃ : h₃.IsTuple l2 ys := ((hl2.extBut hs₁.extBut (by first | exact adn rfl | exact ada rfl | exact adb rfl | exact adl (by assumption) | exact adm (by assumption) | exact ad (by omega))).extBut hs₂.extBut (by first | exact adn rfl | exact ada rfl | exact adb rfl | exact adl (by assumption) | exact adm (by assumption) | exact ad (by omega))).extBut hs₃.extBut (by first | exact adn rfl | exact ada rfl | exact adb rfl | exact adl (by assumption) | exact adm (by assumption) | exact ad (by omega))
  refine wpAny_bind (nextTup (s := ⟨h₃, g, d, tk, os⟩) h2₃ hl2₃ hy fun h₄ h2₄ hs₄ => wpAny_pure ?_)
  replace hs₄ : Heap.SameBut (n + 1) h₃ h₄ := hs₄
  have hTO₄ : IsTri h₄ (n + 4) vx b c := hs₄.extBut _ _ (by first | exact adn rfl | exact ada rfl | exact adb rfl | exact adl (by assumption) | exact adm (by assumption) | exact ad (by omega)) hTO₃
  refine wpAny_bind (wpAny_seqItems (s := ⟨h₄, g, d, tk, os⟩) hTO₄ rfl ?_)
  refine wpAny_bind (upd_tri (s := ⟨h₄, g, d, tk, os⟩) hTO₄ fun h₅ hTO₅ hs₅ => ?_)
  replace hTO₅ : IsTri h₅ (n + 4) vx vy c := hTO₅
  replace hs₅ : Heap.SameBut (n + 4) h₄ h₅ := hs₅
  refine wpAny_bind (wpAny_letGo (wpAny_pure ?_))

  refine wpAny_bind (wpAny_bind (wpAny_onRaise ?_))
  show wpAny _ _ (Builtin.SmallTypes.nextOf (.ref (n + 2)) >>= _) _ _ ⟨h₅, g, d, tk, os⟩
  have si : ∀ {h h' : Heap} {b : Addr}, h.IsStrIter (n + 2) "str_ascii_iterator" x t k → Heap.SameBut b h h' → n + 2 ≠ b → h'.IsStrIter (n + 2) "str_ascii_iterator" x t k := fun {h h' b} hi hs hb => by
    obtain ⟨o, ho, r⟩ := hi
    exact ⟨o, (hs.2 _ hb).trans ho, r⟩
  have h3₅ : h₅.IsStrIter (n + 2) "str_ascii_iterator" x t k := si (si (si (si (si h3 hs₁ (by first | exact adn rfl | exact ada rfl | exact adb rfl | exact adl (by assumption) | exact adm (by assumption) | exact ad (by omega))) hs₂ (by first | exact adn rfl | exact ada rfl | exact adb rfl | exact adl (by assumption) | exact adm (by assumption) | exact ad (by omega))) hs₃ (by first | exact adn rfl | exact ada rfl | exact adb rfl | exact adl (by assumption) | exact adm (by assumption) | exact ad (by omega))) hs₄ (by first | exact adn rfl | exact ada rfl | exact adb rfl | exact adl (by assumption) | exact adm (by assumption) | exact ad (by omega))) hs₅ (by first | exact adn rfl | exact ada rfl | exact adb rfl | exact adl (by assumption) | exact adm (by assumption) | exact ad (by omega))
  refine wpAny_bind (wpAny_nextOf_ascii_item (s := ⟨h₅, g, d, tk, os⟩) h3₅ hc fun h₆ h3₆ hs₆ => wpAny_pure ?_)
  replace hs₆ : Heap.SameBut (n + 2) h₅ h₆ := hs₆
  have hTO₆ : IsTri h₆ (n + 4) vx vy c := hs₆.extBut _ _ (by first | exact adn rfl | exact ada rfl | exact adb rfl | exact adl (by assumption) | exact adm (by assumption) | exact ad (by omega)) hTO₅
  refine wpAny_bind (wpAny_seqItems (s := ⟨h₆, g, d, tk + 1, os⟩) hTO₆ rfl ?_)
  refine wpAny_bind (upd_tri (s := ⟨h₆, g, d, tk + 1, os⟩) hTO₆ fun h₇ hTO₇ hs₇ => ?_)
  replace hTO₇ : IsTri h₇ (n + 4) vx vy (.str ⟨#[ch]⟩ tk) := hTO₇
  replace hs₇ : Heap.SameBut (n + 4) h₆ h₇ := hs₇
  refine wpAny_bind (wpAny_letGo (wpAny_pure (wpAny_pure ?_)))

  refine wpAny_bind (wpAny_seqItems (s := ⟨h₇, g, d, tk + 1, os⟩) hTO₇ rfl ?_)
  refine wpAny_bind (wpAny_newTuple ?_)
  have hsz : h₇.objs.size = hp.objs.size := by rw [hs₇.1, hs₆.1, hs₅.1, hs₄.1, hs₃.1, hs₂.1, hs₁.1]
  have kp : ∀ c o, c ≠ n + 5 → c ≠ n + 4 → c ≠ n → c ≠ n + 1 → c ≠ n + 2 → hp.get? c = some o → h₇.get? c = some o := fun c o c5 c4 c0 c1 c2 e =>
    hs₇.extBut _ _ c4 (hs₆.extBut _ _ c2 (hs₅.extBut _ _ c4 (hs₄.extBut _ _ c1 (hs₃.extBut _ _ c4 (hs₂.extBut _ _ c0 (hs₁.extBut _ _ c5 e))))))
  have hz₇ : IsZip h₇ (n + 5) (n + 3) (n + 4) .ellipsis := hs₇.extBut _ _ (by first | exact adn rfl | exact ada rfl | exact adb rfl | exact adl (by assumption) | exact adm (by assumption) | exact ad (by omega)) (hs₆.extBut _ _ (by first | exact adn rfl | exact ada rfl | exact adb rfl | exact adl (by assumption) | exact adm (by assumption) | exact ad (by omega)) (hs₅.extBut _ _ (by first | exact adn rfl | exact ada rfl | exact adb rfl | exact adl (by assumption) | exact adm (by assumption) | exact ad (by omega)) (hs₄.extBut _ _ (by first | exact adn rfl | exact ada rfl | exact adb rfl | exact adl (by assumption) | exact adm (by assumption) | exact ad (by omega)) (hs₃.extBut _ _ (by first | exact adn rfl | exact ada rfl | exact adb rfl | exact adl (by assumption) | exact adm (by assumption) | exact ad (by omega)) (hs₂.extBut _ _ (by first | exact adn rfl | exact ada rfl | exact adb rfl | exact adl (by assumption) | exact adm (by assumption) | exact ad (by omega)) hz₁)))))
  have h1₇ : h₇.IsTupleIter n l1 (k + 1) := ((((h1₂.extBut hs₃.extBut (by first | exact adn rfl | exact ada rfl | exact adb rfl | exact adl (by assumption) | exact adm (by assumption) | exact ad (by omega))).extBut hs₄.extBut (by first | exact adn rfl | exact ada rfl | exact adb rfl | exact adl (by assumption) | exact adm (by assumption) | exact ad (by omega))).extBut hs₅.extBut (by first | exact adn rfl | exact ada rfl | exact adb rfl | exact adl (by assumption) | exact adm (by assumption) | exact ad (by omega))).extBut hs₆.extBut (by first | exact adn rfl | exact ada rfl | exact adb rfl | exact adl (by assumption) | exact adm (by assumption) | exact ad (by omega))).extBut hs₇.extBut (by first | exact adn rfl | exact ada rfl | exact adb rfl | exact adl (by assumption) | exact adm (by assumption) | exact ad (by omega))
  have h2₇ : h₇.IsTupleIter (n + 1) l2 (k + 1) := ((h2₄.extBut hs₅.extBut (by first | exact adn rfl | exact ada rfl | exact adb rfl | exact adl (by assumption) | exact adm (by assumption) | exact ad (by omega))).extBut hs₆.extBut (by first | exact adn rfl | exact ada rfl | exact adb rfl | exact adl (by assumption) | exact adm (by assumption) | exact ad (by omega))).extBut hs₇.extBut (by first | exact adn rfl | exact ada rfl | exact adb rfl | exact adl (by assumption) | exact adm (by assumption) | exact ad (by omega))
  have h3₇ : h₇.IsStrIter (n + 2) "str_ascii_iterator" x t (k + 1) := by obtain ⟨o, ho, r⟩ := h3₆; exact ⟨o, (hs₇.2 _ (by first | exact adn rfl | exact ada rfl | exact adb rfl | exact adl (by assumption) | exact adm (by assumption) | exact ad (by omega))).trans ho, r⟩
  have hzlt : n + 5 < h₇.objs.size := Heap.lt_size hz₇
  show wpAny _ _ (Builtin.SmallTypes.ownedTupleHandOut (.ref (n + 5)) (.ref h₇.objs.size) >>= _) _ _ _
  refine wpAny_bind ?_
  unfold Builtin.SmallTypes.ownedTupleHandOut
  have hz₈ : IsZip (h₇.push { cls := .type "tuple", data := .seq #[vx, vy, .str ⟨#[ch]⟩ tk] }) (n + 5) (n + 3) (n + 4) .ellipsis := Heap.get?_push_of_some _ hz₇
  refine wpAny_bind (wpAny_setField_rec hz₈ (by simp) fun h₉ hz₉ hs₉ => ?_)
  replace hz₉ : IsZip h₉ (n + 5) (n + 3) (n + 4) (rawInt h₇.objs.size) := hz₉
  refine wpAny_setField_rec hz₉ (by simp) fun hA hzA hsA => ?_
  replace hzA : IsZip hA (n + 5) (n + 3) (n + 4) (rawInt h₇.objs.size) := hzA
  have up : ∀ c o, c ≠ n + 5 → h₇.get? c = some o → hA.get? c = some o := fun c o c1 e => hsA.extBut _ _ c1 (hs₉.extBut _ _ c1 (Heap.get?_push_of_some _ e))
  have hT₈ : IsTri hA h₇.objs.size vx vy (.str ⟨#[ch]⟩ tk) := hsA.extBut _ _ (Nat.ne_of_gt hzlt) (hs₉.extBut _ _ (Nat.ne_of_gt hzlt) (Heap.get?_push_size _ rfl))
  rw [hsz] at hzA hT₈
  refine wpAny_pure ⟨_, rfl, ?_⟩
  show wpAny _ _ (pure (some (Value.ref h₇.objs.size))) _ _ _
  rw [hsz]
  have tup : ∀ {l : Nat} {it : Array Value}, l < n → Heap.IsTuple hp l it → hA.IsTuple l it := fun {l it} hl ht => by
    obtain ⟨o, e, r⟩ := ht
    exact ⟨o, up _ _ (by first | exact adn rfl | exact ada rfl | exact adb rfl | exact adl (by assumption) | exact adm (by assumption) | exact ad (by omega)) (kp _ _ (by first | exact adn rfl | exact ada rfl | exact adb rfl | exact adl (by assumption) | exact adm (by assumption) | exact ad (by omega)) (by first | exact adn rfl | exact ada rfl | exact adb rfl | exact adl (by assumption) | exact adm (by assumption) | exact ad (by omega)) (by first | exact adn rfl | exact ada rfl | exact adb rfl | exact adl (by assumption) | exact adm (by assumption) | exact ad (by omega)) (by first | exact adn rfl | exact ada rfl | exact adb rfl | exact adl (by assumption) | exact adm (by assumption) | exact ad (by omega)) (by first | exact adn rfl | exact ada rfl | exact adb rfl | exact adl (by assumption) | exact adm (by assumption) | exact ad (by omega)) e), r⟩
  refine wpAny_pure (hQ hA tk hzA (up _ _ (by first | exact adn rfl | exact ada rfl | exact adb rfl | exact adl (by assumption) | exact adm (by assumption) | exact ad (by omega)) (kp _ _ (by first | exact adn rfl | exact ada rfl | exact adb rfl | exact adl (by assumption) | exact adm (by assumption) | exact ad (by omega)) (by first | exact adn rfl | exact ada rfl | exact adb rfl | exact adl (by assumption) | exact adm (by assumption) | exact ad (by omega)) (by first | exact adn rfl | exact ada rfl | exact adb rfl | exact adl (by assumption) | exact adm (by assumption) | exact ad (by omega)) (by first | exact adn rfl | exact ada rfl | exact adb rfl | exact adl (by assumption) | exact adm (by assumption) | exact ad (by omega)) (by first | exact adn rfl | exact ada rfl | exact adb rfl | exact adl (by assumption) | exact adm (by assumption) | exact ad (by omega)) hTI)) (up _ _ (by first | exact adn rfl | exact ada rfl | exact adb rfl | exact adl (by assumption) | exact adm (by assumption) | exact ad (by omega)) hTO₇) ?_ ?_ ?_ (tup a1 hl1) (tup a2 hl2) hT₈ fun c o c1 c2 c3 c4 c5 e => up c o c1 (kp c o c1 c2 c3 c4 c5 e))
  · obtain ⟨o, e, r⟩ := h1₇; exact ⟨o, up _ _ (by first | exact adn rfl | exact ada rfl | exact adb rfl | exact adl (by assumption) | exact adm (by assumption) | exact ad (by omega)) e, r⟩
  · obtain ⟨o, e, r⟩ := h2₇; exact ⟨o, up _ _ (by first | exact adn rfl | exact ada rfl | exact adb rfl | exact adl (by assumption) | exact adm (by assumption) | exact ad (by omega)) e, r⟩
  · obtain ⟨o, e, r⟩ := h3₇; exact ⟨o, up _ _ (by first | exact adn rfl | exact ada rfl | exact adb rfl | exact adl (by assumption) | exact adm (by assumption) | exact ad (by omega)) e, r⟩

theorem zip3End {n l1 k : Nat} {xs : Array Value} {Q : Option Value → Shared → Prop} (hh : A.handled = none) (a1 : l1 < n)
    (hz : IsZip s.heap (n + 5) (n + 3) (n + 4) .none) (hTI : IsTri s.heap (n + 3) (.ref n) (.ref (n + 1)) (.ref (n + 2)))
    (h1 : s.heap.IsTupleIter n l1 k) (hl1 : s.heap.IsTuple l1 xs) (hx : xs[k]? = none)
    (hQ : ∀ h', (∀ c o, c ≠ n + 5 → c ≠ n → s.heap.get? c = some o → h'.get? c = some o) → Q none { s with heap := h' }) :
    wpAny (model PP w.w) A (pyNext (.ref (n + 5))) Q E s := by
  have hT : s.TypeIs (.ref (n + 5)) "zip" := ⟨_, hz, rfl⟩
  unfold pyNext
  refine wpAny_bind (wpAny_attempt (wpAny_callSpecial?_slot (name := Str.ofString "__next__") hT PySem.F.slot_zip_next (wpAny_call_entry PySem.F.slot_zip_next hT PySem.F.entry_zip_next ?_ (PySem.F.args_zip_next_1 _))))
  obtain ⟨hp, g, d, tk, os⟩ := s
  show wpAny _ _ (field (.ref (n + 5)) 2 >>= _) _ _ _
  refine wpAny_bind (wpAny_field hz rfl (x := .bool false) rfl ?_)
  show wpAny _ _ (field (.ref (n + 5)) 3 >>= _) _ _ _
  refine wpAny_bind (wpAny_field hz rfl (x := .ref (n + 3)) rfl ?_)
  refine wpAny_bind (wpAny_seqItems hTI rfl ?_)
  show wpAny _ _ (Builtin.SmallTypes.ownedTupleIsFree (.ref (n + 5)) >>= _) _ _ _
  refine wpAny_bind ?_
  unfold Builtin.SmallTypes.ownedTupleIsFree
  refine wpAny_bind (wpAny_field hz rfl (x := .none) rfl (wpAny_pure ?_))
  simp only [if_true]
  refine wpAny_bind (wpAny_rule ?_)
  refine wpAny_bind (wpAny_field hz rfl (x := .ref (n + 4)) rfl ?_)
  refine wpAny_bind (wpAny_setField_rec hz (by simp) fun h₁ hz₁ hs₁ => ?_)
  replace hs₁ : Heap.SameBut (n + 5) hp h₁ := hs₁
  replace hz₁ : IsZip h₁ (n + 5) (n + 3) (n + 4) .ellipsis := hz₁
  refine wpAny_bind ?_
  simp only [List.zipIdx_cons, List.zipIdx_nil, List.forIn_cons, List.forIn_nil]
  refine wpAny_bind (wpAny_bind (wpAny_onRaise ?_))
  show wpAny _ _ (Builtin.SmallTypes.nextOf (.ref n) >>= _) _ _ ⟨h₁, g, d, tk, os⟩
  refine wpAny_bind (nextTupEnd (s := ⟨h₁, g, d, tk, os⟩) hh (h1.extBut hs₁.extBut (by first | exact adn rfl | exact ada rfl | exact adb rfl | exact adl (by assumption) | exact adm (by assumption) | exact ad (by omega))) (hl1.extBut hs₁.extBut (by first | exact adn rfl | exact ada rfl | exact adb rfl | exact adl (by assumption) | exact adm (by assumption) | exact ad (by omega))) hx fun h₂ e hs₂ he => ?_)
  obtain ⟨oe, hoe, hce⟩ := he
  replace hs₂ : Heap.ExtBut n h₁ h₂ := hs₂
  have hz₂ : IsZip h₂ (n + 5) (n + 3) (n + 4) .ellipsis := hs₂ _ _ (by first | exact adn rfl | exact ada rfl | exact adb rfl | exact adl (by assumption) | exact adm (by assumption) | exact ad (by omega)) hz₁
  have hez : e ≠ n + 5 := fun x => by subst x; rw [hz₂] at hoe; cases hoe; simp at hce
  refine wpAny_setField_rec (s := ⟨h₂, g, d, tk, os⟩) hz₂ (by simp) fun h₃ _ hs₃ => ?_
  replace hs₃ : Heap.SameBut (n + 5) h₂ h₃ := hs₃
  refine wpAny_bind (wpAny_isInstance (T := "StopIteration") (b := true) ⟨oe, hs₃.extBut _ _ hez hoe, hce⟩ isSubtype_stop ?_)
  exact wpAny_pure (hQ h₃ fun c o c1 c2 e => hs₃.extBut _ _ c1 (hs₂ _ _ c2 (hs₁.extBut _ _ c1 e)))

theorem typeCall_zip_3 (a b c : Value) : checkTypeCall "zip" ⟨[a, b, c], []⟩ = pure () := by kernel_rfl
theorem newCall_zip_3 (a b c : Value) : checkBuiltinCall "zip.__new__" ⟨[.type "zip", a, b, c], []⟩ = pure () := by kernel_rfl
theorem args_object_init_4 (a b c d : Value) : argsOk "object.__init__" ⟨[a, b, c, d], []⟩ := by
  unfold argsOk; rw [signature?_of (id := "object.__init__") (n := ['_', '_', 't', 'i', 'n', 'i', '_', '_']) (o := ['t', 'c', 'e', 'j', 'b', 'o']) (by kernel_rfl) PySem.F.owner_object]; kernel_rfl
end
end Mine

set_option maxRecDepth 100000
set_option maxHeartbeats 1000000
namespace Mine

noncomputable abbrev z1H (h : Heap) (l1 : Addr) : Heap := h.push { cls := .type "tuple_iterator", data := .fields #[.ref l1, .int 0 0] }
noncomputable abbrev z2H (h : Heap) (l1 l2 : Addr) : Heap := (z1H h l1).push { cls := .type "tuple_iterator", data := .fields #[.ref l2, .int 0 0] }
noncomputable abbrev z3H (h : Heap) (l1 l2 : Addr) (x : Str) (t : Tok) : Heap := (z2H h l1 l2).push { cls := .type (strIterType x), data := .fields #[.str x t, .int 0 0] }
noncomputable abbrev z4H (h : Heap) (l1 l2 : Addr) (x : Str) (t : Tok) : Heap := (z3H h l1 l2 x t).push { cls := .type "tuple", data := .seq #[.ref h.objs.size, .ref (z1H h l1).objs.size, .ref (z2H h l1 l2).objs.size] }
noncomputable abbrev z5H (h : Heap) (l1 l2 : Addr) (x : Str) (t : Tok) : Heap := (z4H h l1 l2 x t).push { cls := .type "tuple", data := .seq #[.none, .none, .none] }
noncomputable abbrev z6H (h : Heap) (l1 l2 : Addr) (x : Str) (t : Tok) : Heap := (z5H h l1 l2 x t).push { cls := .type "zip", data := .fields #[.none, .bool false, .bool false, .ref (z3H h l1 l2 x t).objs.size, .ref (z4H h l1 l2 x t).objs.size] }

theorem meets_zip3 (l1 l2 : Addr) (xs ys : Array Value) (x : Str) (t : Tok) :
    Meets (Builtin.«zip.__new__» ⟨[.type "zip", .ref l1, .ref l2, .str x t], []⟩) (fun _ R s => s.heap.IsTuple l1 xs ∧ s.heap.IsTuple l2 ys ∧
      R (.ok (.ret (.ref (z5H s.heap l1 l2 x t).objs.size))) { s with heap := z6H s.heap l1 l2 x t }) :=
  .of_wp fun prog w A R s h => by
    obtain ⟨hp, g, d, tk, os⟩ := s; obtain ⟨hl1, hl2, h⟩ := h
    have hsub := sub_zip
    have hL1 : Heap.IsTuple (Shared.heap ⟨hp, g, d, tk, os⟩) l1 xs := hl1
    have hL2 : Heap.IsTuple (Shared.heap ⟨hp.push { cls := .type "tuple_iterator", data := .fields #[.ref l1, .int 0 0] }, g, d, tk, os⟩) l2 ys := Heap.IsTuple.push hl2 _
    wp_walk using wpAny_pyIter_tuple hL1, wpAny_pyIter_tuple hL2, wpAny_pyIter_strU
    exact ⟨_, rfl, h⟩

section
variable {w : Wd} {A : Around} {E : Value → Shared → Prop} {s : Shared}

theorem call_zip3 {l1 l2 : Addr} {xs ys : Array Value} {x : Str} {t : Tok} {Q : Value → Shared → Prop} (hx : x.cps.all (· < 128) = true) (hl1 : s.heap.IsTuple l1 xs) (hl2 : s.heap.IsTuple l2 ys)
    (h : ∀ h', IsZip h' (s.heap.objs.size + 5) (s.heap.objs.size + 3) (s.heap.objs.size + 4) .none → IsTri h' (s.heap.objs.size + 3) (.ref s.heap.objs.size) (.ref (s.heap.objs.size + 1)) (.ref (s.heap.objs.size + 2)) →
      IsTri h' (s.heap.objs.size + 4) .none .none .none → h'.IsTupleIter s.heap.objs.size l1 0 → h'.IsTupleIter (s.heap.objs.size + 1) l2 0 → h'.IsStrIter (s.heap.objs.size + 2) "str_ascii_iterator" x t 0 →
      h'.IsTuple l1 xs → h'.IsTuple l2 ys → (∀ c o, s.heap.get? c = some o → h'.get? c = some o) → h'.objs.size = s.heap.objs.size + 6 → Q (.ref (s.heap.objs.size + 5)) { s with heap := h' }) :
    wpAny (model PP w.w) A (call (.type "zip") [.ref l1, .ref l2, .str x t]) Q E s := by
  refine callType_new PySem.F.called_zip (by decide) (typeCall_zip_3 _ _ _) (newCall_zip_3 _ _ _) (fun obj => args_object_init_4 obj _ _ _) PySem.F.entry_zip_new
    (meets_zip3 l1 l2 xs ys x t) ⟨hl1, hl2, ?_⟩
  have e1 : (z1H s.heap l1).objs.size = s.heap.objs.size + 1 := Heap.size_push ..
  have e2 : (z2H s.heap l1 l2).objs.size = s.heap.objs.size + 2 := by rw [Heap.size_push, e1]
  have e3 : (z3H s.heap l1 l2 x t).objs.size = s.heap.objs.size + 3 := by rw [Heap.size_push, e2]
  have e4 : (z4H s.heap l1 l2 x t).objs.size = s.heap.objs.size + 4 := by rw [Heap.size_push, e3]
  have e5 : (z5H s.heap l1 l2 x t).objs.size = s.heap.objs.size + 5 := by rw [Heap.size_push, e4]
  have e6 : (z6H s.heap l1 l2 x t).objs.size = s.heap.objs.size + 6 := by rw [Heap.size_push, e5]
  have k1 : ∀ c o, s.heap.get? c = some o → (z1H s.heap l1).get? c = some o := fun c o e => Heap.get?_push_of_some _ e
  have k2 : ∀ c o, (z1H s.heap l1).get? c = some o → (z2H s.heap l1 l2).get? c = some o := fun c o e => Heap.get?_push_of_some _ e
  have k3 : ∀ c o, (z2H s.heap l1 l2).get? c = some o → (z3H s.heap l1 l2 x t).get? c = some o := fun c o e => Heap.get?_push_of_some _ e
  have k4 : ∀ c o, (z3H s.heap l1 l2 x t).get? c = some o → (z4H s.heap l1 l2 x t).get? c = some o := fun c o e => Heap.get?_push_of_some _ e
  have k5 : ∀ c o, (z4H s.heap l1 l2 x t).get? c = some o → (z5H s.heap l1 l2 x t).get? c = some o := fun c o e => Heap.get?_push_of_some _ e
  have k6 : ∀ c o, (z5H s.heap l1 l2 x t).get? c = some o → (z6H s.heap l1 l2 x t).get? c = some o := fun c o e => Heap.get?_push_of_some _ e
  have g1 : (z1H s.heap l1).get? s.heap.objs.size = some _ := Heap.get?_push_size _ rfl
  have g2 : (z2H s.heap l1 l2).get? (z1H s.heap l1).objs.size = some _ := Heap.get?_push_size _ rfl
  have g3 : (z3H s.heap l1 l2 x t).get? (z2H s.heap l1 l2).objs.size = some _ := Heap.get?_push_size _ rfl
  have g4 : (z4H s.heap l1 l2 x t).get? (z3H s.heap l1 l2 x t).objs.size = some _ := Heap.get?_push_size _ rfl
  have g5 : (z5H s.heap l1 l2 x t).get? (z4H s.heap l1 l2 x t).objs.size = some _ := Heap.get?_push_size _ rfl
  have g6 : (z6H s.heap l1 l2 x t).get? (z5H s.heap l1 l2 x t).objs.size = some _ := Heap.get?_push_size _ rfl
  have sx : strIterType x = "str_ascii_iterator" := by unfold strIterType; rw [if_pos hx]
  rw [e1] at g2
  rw [e2, sx] at g3
  rw [e3, e2, e1] at g4
  rw [e4] at g5
  rw [e5, e4, e3] at g6
  have old : ∀ c o, s.heap.get? c = some o → (z6H s.heap l1 l2 x t).get? c = some o := fun c o e => k6 _ _ (k5 _ _ (k4 _ _ (k3 _ _ (k2 _ _ (k1 _ _ e)))))
  show _ ∧ _
  rw [e5]
  have it1 : (z6H s.heap l1 l2 x t).IsTupleIter s.heap.objs.size l1 0 := ⟨_, k6 _ _ (k5 _ _ (k4 _ _ (k3 _ _ (k2 _ _ g1)))), rfl, rfl⟩
  have it2 : (z6H s.heap l1 l2 x t).IsTupleIter (s.heap.objs.size + 1) l2 0 := ⟨_, k6 _ _ (k5 _ _ (k4 _ _ (k3 _ _ g2))), rfl, rfl⟩
  have it3 : (z6H s.heap l1 l2 x t).IsStrIter (s.heap.objs.size + 2) "str_ascii_iterator" x t 0 := ⟨_, k6 _ _ (k5 _ _ (k4 _ _ g3)), rfl, rfl⟩
  have tup : ∀ {l : Addr} {it : Array Value}, s.heap.IsTuple l it → (z6H s.heap l1 l2 x t).IsTuple l it := fun {l it} ht => by
    obtain ⟨o, e, r⟩ := ht
    exact ⟨o, old _ _ e, r⟩
  exact ⟨⟨_, g6, rfl⟩, h _ g6 (k6 _ _ (k5 _ _ g4)) (k6 _ _ g5) it1 it2 it3 (tup hl1) (tup hl2) old e6⟩
end
end Mine

set_option maxRecDepth 100000
set_option maxHeartbeats 1000000
namespace Mine

theorem adD {n j D : Nat} (h : n + 5 < D) (hj : j ≤ 5) : n + j ≠ D := Nat.ne_of_lt (Nat.lt_of_le_of_lt (Nat.add_le_add_left hj n) h)
theorem adD0 {n D : Nat} (h : n + 5 < D) : n ≠ D := adD (j := 0) h (Nat.zero_le _)
theorem adDl {n l D : Nat} (h : n + 5 < D) (hl : l < n) : l ≠ D := Nat.ne_of_lt (Nat.lt_trans hl (Nat.lt_of_le_of_lt (Nat.le_add_right _ _) h))
theorem adDr {n b D : Nat} (h : n + 5 < D) (hb : n ≤ b ∧ b ≤ n + 5) : b ≠ D := Nat.ne_of_lt (Nat.lt_of_le_of_lt hb.2 h)
theorem in_r {n j : Nat} (h : j ≤ 5) : n ≤ n + j ∧ n + j ≤ n + 5 := ⟨Nat.le_add_right _ _, Nat.add_le_add_left h n⟩
theorem in_r0 {n : Nat} : n ≤ n ∧ n ≤ n + 5 := ⟨Nat.le_refl _, Nat.le_add_right _ _⟩
/-- a zip of two tuples and a text, behind i turns -/
structure Z3 (n l1 l2 : Nat) (xs ys : Array Value) (x : Str) (t : Tok) (i : Nat) (h : Heap) : Prop where
  z : IsZip h (n + 5) (n + 3) (n + 4) .none
  ti : IsTri h (n + 3) (.ref n) (.ref (n + 1)) (.ref (n + 2))
  to : ∃ a b c, IsTri h (n + 4) a b c
  i1 : h.IsTupleIter n l1 i
  i2 : h.IsTupleIter (n + 1) l2 i
  i3 : h.IsStrIter (n + 2) "str_ascii_iterator" x t i
  t1 : h.IsTuple l1 xs
  t2 : h.IsTuple l2 ys
theorem pl_zip {h : Heap} {a b c : Addr} {f0 : Value} {o : Obj} (e : IsZip h a b c f0) (e' : h.get? a = some o) : Pl o ∧ ∀ it n, o.data ≠ .seq it n := by
  have e2 := e'.symm.trans e
  cases e2
  exact ⟨.fields rfl (fun x u e => by cases e), fun it n e => by cases e⟩
theorem pl_tit {h : Heap} {a l i : Nat} {o : Obj} (e : h.IsTupleIter a l i) (e' : h.get? a = some o) : Pl o ∧ ∀ it n, o.data ≠ .seq it n := by
  obtain ⟨o', e, _, hd⟩ := e
  rw [e'] at e; cases e
  exact ⟨.fields hd (fun x u e => by cases e), fun it n e => by rw [hd] at e; cases e⟩
theorem pl_sit {h : Heap} {a i : Nat} {T : String} {x : Str} {t : Tok} {o : Obj} (e : h.IsStrIter a T x t i) (e' : h.get? a = some o) : Pl o ∧ ∀ it n, o.data ≠ .seq it n := by
  obtain ⟨o', e, _, hd⟩ := e
  rw [e'] at e; cases e
  exact ⟨.fields hd (fun x u e => by cases e), fun it n e => by rw [hd] at e; cases e⟩
theorem Z3.keep {n l1 l2 : Nat} {xs ys : Array Value} {x : Str} {t : Tok} {i : Nat} {h h' : Heap} (Z : Z3 n l1 l2 xs ys x t i h) (hk : ∀ (b : Nat) o, (b = l1 ∨ b = l2 ∨ (n ≤ b ∧ b ≤ n + 5)) → Pl o → h.get? b = some o → h'.get? b = some o) : Z3 n l1 l2 xs ys x t i h' where
  z := hk _ _ (.inr (.inr (by first | exact in_r (by decide) | exact in_r0))) (pl_zip Z.z Z.z).1 Z.z
  ti := hk _ _ (.inr (.inr (by first | exact in_r (by decide) | exact in_r0))) (.seq rfl) Z.ti
  to := let ⟨a, b, c, e⟩ := Z.to; ⟨a, b, c, hk _ _ (.inr (.inr (by first | exact in_r (by decide) | exact in_r0))) (.seq rfl) e⟩
  i1 := let ⟨o, e, r⟩ := Z.i1; ⟨o, hk _ _ (.inr (.inr (by first | exact in_r (by decide) | exact in_r0))) (pl_tit Z.i1 e).1 e, r⟩
  i2 := let ⟨o, e, r⟩ := Z.i2; ⟨o, hk _ _ (.inr (.inr (by first | exact in_r (by decide) | exact in_r0))) (pl_tit Z.i2 e).1 e, r⟩
  i3 := let ⟨o, e, r⟩ := Z.i3; ⟨o, hk _ _ (.inr (.inr (by first | exact in_r (by decide) | exact in_r0))) (pl_sit Z.i3 e).1 e, r⟩
  t1 := let ⟨o, e, c, m, hd⟩ := Z.t1; ⟨o, hk _ _ (.inl rfl) (.seq hd) e, c, m, hd⟩
  t2 := let ⟨o, e, c, m, hd⟩ := Z.t2; ⟨o, hk _ _ (.inr (.inl rfl)) (.seq hd) e, c, m, hd⟩

section
variable {w : Wd} {av : List Addr} {k : Nat} {q : Bool} {env : Env} {σ : Sg} {h₀ : Heap}
/-- only the iterator's own objects have changed, and its tuple -/
theorem Fs.bumpZ {h h' : Heap} {wr : List Addr} {TO : Addr} {it it' : Array Value} {n n' : Nat} (F : Fs w av q h₀ env σ none h) (hw : ∀ b ∈ wr, h₀.get? b = none ∧ b ∉ av ∧ ∃ o, h.get? b = some o ∧ Pl o ∧ ∀ it n, o.data ≠ .seq it n)
    (hT0 : h₀.get? TO = none) (hTa : TO ∈ av) (hT : IsT h TO it n) (hT' : IsT h' TO it' n') (hk : ∀ b o, b ∉ wr → b ≠ TO → h.get? b = some o → h'.get? b = some o) : Fs w av q h₀ env σ none h' := by
  have old : ∀ b o, h₀.get? b = some o → b ∉ wr := fun b o e hb => by rw [(hw b hb).1] at e; cases e
  have oldT : ∀ b o, h₀.get? b = some o → b ≠ TO := fun b o e hb => by rw [hb, hT0] at e; cases e
  have nt : ∀ b o, h.get? b = some o → (∀ it n, o.data ≠ .seq it n) → b ≠ TO := fun b o e hn hb => by rw [hb, hT] at e; cases e; exact hn _ _ rfl
  have dict : ∀ {L : Addr} {m : Str → Option Value}, h.Ns L m → h'.Ns L m := fun {L m} hn => by
    obtain ⟨o, es, ep, e, hd, r⟩ := hn
    exact ⟨o, es, ep, hk _ _ (fun hb => by
      obtain ⟨_, _, o', e', hp, _⟩ := hw _ hb
      rw [e] at e'; cases e'; exact hp.1 _ _ hd) (nt _ _ e fun it n e => by rw [hd] at e; cases e) e, hd, r⟩
  have cell : ∀ {c : Addr} {v : Option Value}, h.IsCell c v → h'.IsCell c v := fun {c v} hc => by
    obtain ⟨o, e, hd⟩ := hc
    exact ⟨o, hk _ _ (fun hb => by
      obtain ⟨_, _, o', e', hp, _⟩ := hw _ hb
      rw [e] at e'; cases e'; exact hp.2.1 _ hd) (nt _ _ e fun it n e => by rw [hd] at e; cases e) e, hd⟩
  have vr : ∀ {y : Str} {u : Value}, Var h env y u → Var h' env y u := fun {y u} V => ⟨V.1, by
    rcases V.2 with ⟨a, m, b, c⟩ | ⟨a, c, b, d⟩ | ⟨a, a', c, b, d⟩
    · exact .inl ⟨a, m, dict b, c⟩
    · exact .inr (.inl ⟨a, c, b, cell d⟩)
    · exact .inr (.inr ⟨a, a', c, b, cell d⟩)⟩
  have sk : SeqKeep av h h' := fun a o it n ha e hd => hk a o (fun hb => by
    obtain ⟨_, _, o', e', _, hp⟩ := hw _ hb
    rw [e] at e'; cases e'; exact hp _ _ hd) (fun hb => ha (hb ▸ hTa)) e
  have tab : ∀ {P l c : Nat} {qq : Str}, (∃ o, h₀.get? P = some o) → TabOk h P l c qq → TabOk h' P l c qq := fun {P l c qq} hP t => by
    have hne : P ∉ wr := let ⟨o, e⟩ := hP; old P o e
    have hneT : P ≠ TO := let ⟨o, e⟩ := hP; oldT P o e
    rcases t with t | ⟨c', t, ⟨c2, o, vs, u, e, e1, e2, e3⟩⟩
    · exact .inl (hk _ _ hne hneT t)
    · refine .inr ⟨c', hk _ _ hne hneT t, c2, o, vs, u, e, hk _ _ (fun hb => ?_) (nt _ _ e1 fun it n e => by rw [e2] at e; cases e) e1, e2, e3⟩
      obtain ⟨_, _, o', e', hp, _⟩ := hw _ hb
      rw [e1] at e'; cases e'; exact hp.2.2 _ _ _ e2 e3
  have lt : ∀ {P l c : Nat} {qq : Str}, TabOk h₀ P l c qq → ∃ o, h₀.get? P = some o := fun {P l c qq} t => by obtain ⟨ps, e, _⟩ := t.fields; exact ⟨_, e⟩
  have g := F.sees.gd
  have both : ∀ b o o', h₀.get? b = some o' → h.get? b = some o → h'.get? b = some o := fun b o o' e e' => hk _ _ (old _ _ e) (oldT _ _ e) e'
  have g' : Gd w h' := by
    refine ⟨fun a o e => ⟨(g.kx a o e).1, (g.kx a o e).2.1, both _ _ _ (F.g0.kx a o e).2.2 (g.kx a o e).2.2⟩, fun a o e => both _ _ _ (F.g0.X a o e) (g.X a o e), ?_, ?_, ?_, ?_, tab (lt F.g0.t1) g.t1, tab (lt F.g0.t2) g.t2⟩
    · obtain ⟨m, n⟩ := g.g; exact ⟨m, dict n⟩
    · obtain ⟨m, n, r⟩ := g.ns; exact ⟨m, dict n, r⟩
    · obtain ⟨m, n, r⟩ := g.lim; exact ⟨m, dict n, r⟩
    · obtain ⟨ob, e, r⟩ := g.bm; obtain ⟨ob', e', _⟩ := F.g0.bm; exact ⟨ob, both _ _ _ e' e, r⟩
  refine ⟨⟨F.sees.kind, F.sees.glob, F.sees.blt, ⟨g', fun a ha => ?_, F.sees.gv.kn⟩, fun y d e => ?_⟩, F.g0, ⟨fun b o hb e => both _ _ _ e (F.ext.keep b o hb e), fun _ => g'⟩, ?_, F.fresh, fun n c a b h1 => ?_, F.apart, trivial⟩
  · obtain ⟨h1, o, e, hp⟩ := F.sees.gv.own a ha
    by_cases hb : a = TO
    · subst hb; exact ⟨h1, _, hT', .seq rfl⟩
    · exact ⟨h1, o, hk _ _ (fun hb => (hw a hb).2.1 ha) hb e, hp⟩
  · obtain ⟨v, V, r⟩ := F.sees.var y d e
    exact ⟨v, vr V, r.mono sk⟩
  · obtain ⟨m, n⟩ := F.ns; exact ⟨m, dict n⟩
  · obtain ⟨v, h2⟩ := F.cel n c a b h1; exact ⟨v, cell h2⟩

theorem comp_zip3 {A : Around} {E : Value → Shared → Prop} {elt iter : Expr} {elts : List Expr} {kk : Nat} {tp pos : Pos} {ifs : List Expr} {scope : Scope} {ds : List D} {p : D → Bool} {f : D → D} (tf : D → Sg → Sg)
    {hB : Heap} {s₂ : Shared} {n l1 l2 : Nat} {xs ys : Array Value} {x : Str} {t : Tok} {Q : Value → Shared → Prop} (rm : Room k A) (hglob : env.globals = mainGlobals) (hblt : env.builtins = builtinsNs) (gB : Gd w hB) (gv : Gv w av hB)
    (old : ∀ b o, hB.get? b = some o → s₂.heap.get? b = some o) (hn : hB.objs.size ≤ n) (a1 : l1 < n) (a2 : l2 < n) (Z : Z3 n l1 l2 xs ys x t 0 s₂.heap) (hl : ds.length = xs.size)
    (hds : ∀ (i : Nat) (d : D), ds[i]? = some d → ∃ vx vy ch dx dy, xs[i]? = some vx ∧ ys[i]? = some vy ∧ x.cps[i]? = some ch ∧ d = D.tup [dx, dy, D.str ⟨#[ch]⟩] ∧ (∀ av h, Rep av h vx dx) ∧ (∀ av h, Rep av h vy dy))
    (hcs : ∀ N, cellsFrom N scope.names [] = []) (hph : ∀ h, pushCells h scope.names = h)
    (hk1 : ∀ r ∈ (relabel scope env).names, r.2 ≠ .cell) (hk2 : ∀ r ∈ (relabel scope env).names, r.2 ≠ .free)
    (htg : ∀ av' h₀ C d, d ∈ ds → h₀.objs.size ≤ C → Tgt w av' k true h₀ (cEnv scope none [] C env) (.Tuple elts kk tp) d (tf d) none)
    (ht : ∀ av' C d, d ∈ ds → Tsts w av' k (cEnv scope none [] C env) (tf d fun _ => none) ifs (p d)) (he : ∀ av' C d, d ∈ ds → p d = true → Ev w av' k true (cEnv scope none [] C env) (tf d fun _ => none) elt (f d)) (hz : ds.length ≤ sizeLine)
    (hkind : scope.kind = .function)
    (h : ∀ y h' tk, Rep av h' y (.list ((ds.filter p).map f)) → Ext w true hB h' → Q y { s₂ with heap := h', toks := tk }) :
    wpAny (model PP w.w) A (newList []) (fun acc s₃ => wpAny (model PP w.w) A (newFunctionEnv scope env.globals [] [] env.qual none .none (some env)) (fun cenv s₄ =>
      codeAny (model PP w.w) A (.compStart (.ListComp elt [⟨.Tuple elts kk tp, iter, ifs, 0⟩] scope pos) 0 (.ref (n + 5)) acc { cenv with scope := relabel scope env }) (compPost (model PP w.w) A E none Q acc cenv.locals) s₄) E s₃) E s₂ := by
  refine wpAny_newObj_type ?_ (by size_fits)
  refine newEnv_around (own := none) (cl := []) (fun N => hcs N) (fun h => hph h) fun cenv hce hcl' => ?_
  have eD : (s₂.heap.push { cls := .type "list", dict := none, data := .seq ([] : List Value).toArray }).objs.size = s₂.heap.objs.size + 1 := Heap.size_push ..
  rw [hce, hcl']
  dsimp only
  rw [eD]
  have zlt : n + 5 < s₂.heap.objs.size := Heap.lt_size Z.z
  generalize hDe : s₂.heap.objs.size = D at *
  generalize hH4 : ownH none ((s₂.heap.push { cls := .type "list", dict := none, data := .seq ([] : List Value).toArray }).push { cls := .type "dict", data := .dict #[] }) = H4
  have hD1 : hB.objs.size ≤ D := Nat.le_trans hn (Nat.le_trans (Nat.le_add_right n 5) (Nat.le_of_lt zlt))
  have up24 : ∀ b o, s₂.heap.get? b = some o → H4.get? b = some o := fun b o e => hH4 ▸ (Heap.get?_push_of_some _ (Heap.get?_push_of_some _ e))
  have up14 : ∀ b o, hB.get? b = some o → H4.get? b = some o := fun b o e => up24 b o (old b o e)
  have n₂D : s₂.heap.get? D = none := hDe ▸ Heap.get?_none_of_le (Nat.le_refl _)
  have lD : IsL H4 D ([] : List Value).toArray 0 := by
    rw [← hH4, ← hDe]; exact (Heap.get?_push_of_some _ (Heap.get?_push_size _ rfl))
  have hC : H4.Ns (D + 1) (fun _ => none) := by
    have := Heap.Ns.new (s₂.heap.push { cls := .type "list", dict := none, data := .seq ([] : List Value).toArray }) (.type "dict")
    rw [eD] at this
    obtain ⟨o, es, ep, e, r⟩ := this
    exact ⟨o, es, ep, hH4 ▸ e, r⟩
  have x14 : Ext w true hB H4 := .of up14
  have noB : ∀ b, hB.objs.size ≤ b → hB.get? b = none := fun b hb => Heap.get?_none_of_le hb
  have avlt : ∀ a ∈ av, a < hB.objs.size := gv.lt
  have F4 : Fs w (D :: (n + 4) :: av) true hB (cEnv scope none [] (D + 1) env) (fun _ => none) none H4 :=
    { sees := ⟨hkind, hglob, hblt, ⟨x14.gd gB, fun a ha => by
        rcases List.mem_cons.mp ha with rfl | ha
        · exact ⟨Nat.le_trans gB.size hD1, _, lD, .seq rfl⟩
        · rcases List.mem_cons.mp ha with rfl | ha
          · obtain ⟨a, b, c, e⟩ := Z.to
            exact ⟨Nat.le_trans gB.size (Nat.le_trans hn (Nat.le_add_right _ _)), _, up24 _ _ e, .seq rfl⟩
          · exact (gv.ext x14).own a ha, fun a ha => by
        rcases List.mem_cons.mp ha with rfl | ha
        · exact gB.kfree (noB _ hD1)
        · rcases List.mem_cons.mp ha with rfl | ha
          · exact gB.kfree (noB _ (by first | exact Nat.le_trans hn (Nat.le_add_right _ _) | exact hn | omega))
          · exact gv.kn a ha⟩, fun y d e => by cases e⟩
      g0 := gB
      ext := x14
      ns := ⟨_, hC⟩
      fresh := Nat.le_succ_of_le hD1
      cel := fun nm c hk hl hge => absurd rfl (hk1 _ (PySem.mem_of_lookup hk))
      apart := fun nm nm' c hk hge hk' hl hl' => absurd rfl (hk1 _ (PySem.mem_of_lookup hk))
      own := trivial }
  have st4 : Z3 n l1 l2 xs ys x t 0 H4 := Z.keep fun b o _ _ e => up24 b o e
  have wrc : ∀ b ∈ [n + 5, n, n + 1, n + 2], b = n + 5 ∨ b = n ∨ b = n + 1 ∨ b = n + 2 := fun b hb => by simpa using hb
  have nin : ∀ b : Nat, n ≤ b → b ≤ n + 5 → b ≠ n + 4 → b ∉ D :: (n + 4) :: av := fun b h1 h2 h3 hm => by
    rcases List.mem_cons.mp hm with e | hm
    · exact absurd e (by first | exact adn rfl | exact ada rfl | exact adb rfl | exact adl (by assumption) | exact adm (by assumption) | exact adD zlt (by decide) | exact (adD zlt (by decide)).symm | exact adD0 zlt | exact (adD0 zlt).symm | exact adDl zlt (by assumption) | exact adDr zlt hb | exact ad (by omega))
    · rcases List.mem_cons.mp hm with e | hm
      · exact h3 e
      · exact absurd (avlt _ hm) (Nat.not_lt.mpr (Nat.le_trans hn h1))
  have wrB : ∀ b ∈ [n + 5, n, n + 1, n + 2], hB.get? b = none ∧ b ∉ D :: (n + 4) :: av := fun b hb => by
    rcases wrc b hb with rfl | rfl | rfl | rfl <;> exact ⟨noB _ (by first | exact Nat.le_trans hn (Nat.le_add_right _ _) | exact hn | omega), nin _ (by first | exact Nat.le_add_right _ _ | exact Nat.le_refl _) (by first | exact Nat.le_add_right _ _ | exact Nat.add_le_add_left (by decide) _ | exact Nat.le_refl _) (by first | exact adn rfl | exact ada rfl | exact adb rfl | exact adl (by assumption) | exact adm (by assumption) | exact adD zlt (by decide) | exact (adD zlt (by decide)).symm | exact adD0 zlt | exact (adD0 zlt).symm | exact adDl zlt (by assumption) | exact adDr zlt hb | exact ad (by omega))⟩
  have wrZ : ∀ {i : Nat} {h : Heap}, Z3 n l1 l2 xs ys x t i h → ∀ b ∈ [n + 5, n, n + 1, n + 2], hB.get? b = none ∧ b ∉ D :: (n + 4) :: av ∧ ∃ o, h.get? b = some o ∧ Pl o ∧ ∀ it n, o.data ≠ .seq it n := fun {i h} Z b hb => by
    refine ⟨(wrB b hb).1, (wrB b hb).2, ?_⟩
    rcases wrc b hb with rfl | rfl | rfl | rfl
    · exact ⟨_, Z.z, pl_zip Z.z Z.z⟩
    · obtain ⟨o, e, r⟩ := Z.i1; exact ⟨o, e, pl_tit Z.i1 e⟩
    · obtain ⟨o, e, r⟩ := Z.i2; exact ⟨o, e, pl_tit Z.i2 e⟩
    · obtain ⟨o, e, r⟩ := Z.i3; exact ⟨o, e, pl_sit Z.i3 e⟩
  have wrD : ∀ b ∈ [n + 5, n, n + 1, n + 2], b ≠ D := fun b hb => by
    rcases wrc b hb with rfl | rfl | rfl | rfl <;> exact ad (by omega)
  have loop : ∀ s₅ : Shared, s₅.heap = H4 → Same s₂ s₅ → codeAny (model PP w.w) A (.compLoop (.ListComp elt [⟨.Tuple elts kk tp, iter, ifs, 0⟩] scope pos) 0 (.ref (n + 5)) (.ref D) (cEnv scope none [] (D + 1) env)) (compPost (model PP w.w) A E none Q (.ref D) (D + 1)) s₅ := by
    intro s₅ hh5 sm5
    refine compLoop_go (fun n' s' => ∃ i vs m, n' = ds.length - i ∧ i ≤ ds.length ∧ Same s₂ s' ∧ Z3 n l1 l2 xs ys x t i s'.heap ∧ Fs w (D :: (n + 4) :: av) true hB (cEnv scope none [] (D + 1) env) (fun _ => none) none s'.heap ∧ IsL s'.heap D vs.toArray m ∧ Reps (D :: (n + 4) :: av) s'.heap vs (((ds.take i).filter p).map f)) ?_ (ds.length - 0)
      ⟨0, [], 0, rfl, Nat.zero_le _, sm5, hh5 ▸ st4, hh5 ▸ F4, hh5 ▸ lD, .nil⟩
    rintro n' s' ⟨i, vs, m, rfl, hi, smi, st, Fi, lDi, ri⟩
    rcases Nat.lt_or_ge i ds.length with hlt | hge
    · have hd : ds[i]? = some ds[i] := by simp [hlt]
      have hmem : ds[i] ∈ ds := List.getElem_mem hlt
      have htake : ds.take (i + 1) = ds.take i ++ [ds[i]] := by rw [List.take_add_one, hd]; rfl
      obtain ⟨vx, vy, ch, dx, dy, e1, e2, e3, e4, r1, r2⟩ := hds i _ hd
      obtain ⟨ta, tb, tc, hto⟩ := st.to
      have szT : ∀ b ∈ D :: (n + 4) :: av, b < s'.heap.objs.size := Fi.sees.gv.lt
      refine zip3Next a1 a2 st.z st.ti hto st.i1 st.i2 st.i3 st.t1 st.t2 e1 e2 e3 fun h₆ u z₆ ti₆ to₆ i1₆ i2₆ i3₆ t1₆ t2₆ hT₆ k₆ => ?_
      generalize hTe : s'.heap.objs.size = T at hT₆ z₆ ⊢
      have zl' : n + 5 < T := hTe ▸ Heap.lt_size st.z
      have kk₆ : ∀ b o, b ∉ [n + 5, n, n + 1, n + 2] → b ≠ n + 4 → s'.heap.get? b = some o → h₆.get? b = some o := fun b o hb hb' e => k₆ b o (fun e => hb (by simp [e])) hb' (fun e => hb (by simp [e])) (fun e => hb (by simp [e])) (fun e => hb (by simp [e])) e
      have F₆ : Fs w (D :: (n + 4) :: av) true hB (cEnv scope none [] (D + 1) env) (fun _ => none) none h₆ := Fi.bumpZ (wrZ st) (noB _ (by first | exact Nat.le_trans hn (Nat.le_add_right _ _) | exact hn | omega)) (.tail _ (.head _)) hto to₆ kk₆
      have l₆ : IsL h₆ D vs.toArray m := kk₆ _ _ (fun hb => wrD D hb rfl) (by first | exact adn rfl | exact ada rfl | exact adb rfl | exact adl (by assumption) | exact adm (by assumption) | exact adD zlt (by decide) | exact (adD zlt (by decide)).symm | exact adD0 zlt | exact (adD0 zlt).symm | exact adDl zlt (by assumption) | exact adDr zlt hb | exact ad (by omega)) lDi
      have r₆ : Reps (D :: (n + 4) :: av) h₆ vs (((ds.take i).filter p).map f) := ri.mono fun a o it n' ha e hdd => kk₆ a o (fun hb => by
        obtain ⟨_, _, o', e', _, hn⟩ := wrZ st a hb
        rw [e] at e'; cases e'; exact hn _ _ hdd) (fun hb => ha (hb ▸ .tail _ (.head _))) e
      have rv : Rep (D :: (n + 4) :: av) h₆ (.ref T) ds[i] := by
        rw [e4]
        exact .tup (vs := [vx, vy, .str ⟨#[ch]⟩ u]) (n := 0) (fun hm => Nat.lt_irrefl _ (hTe ▸ szT T hm)) hT₆ (.cons (r1 _ _) (.cons (r2 _ _) (.cons (.str _ _) .nil)))
      refine wpAny_letOwnedTupleGo_zip z₆ fun h₇ z₇ hs₇ => ?_
      replace hs₇ : Heap.SameBut (n + 5) h₆ h₇ := hs₇
      have k₇ : ∀ b o, b ≠ n + 5 → h₆.get? b = some o → h₇.get? b = some o := fun b o hb e => (hs₇.2 b hb).trans e
      have Z₇ : Z3 n l1 l2 xs ys x t (i + 1) h₇ :=
        { z := z₇
          ti := k₇ _ _ (by first | exact adn rfl | exact ada rfl | exact adb rfl | exact adl (by assumption) | exact adm (by assumption) | exact adD zlt (by decide) | exact (adD zlt (by decide)).symm | exact adD0 zlt | exact (adD0 zlt).symm | exact adDl zlt (by assumption) | exact adDr zlt hb | exact ad (by omega)) ti₆
          to := ⟨_, _, _, k₇ _ _ (by first | exact adn rfl | exact ada rfl | exact adb rfl | exact adl (by assumption) | exact adm (by assumption) | exact adD zlt (by decide) | exact (adD zlt (by decide)).symm | exact adD0 zlt | exact (adD0 zlt).symm | exact adDl zlt (by assumption) | exact adDr zlt hb | exact ad (by omega)) to₆⟩
          i1 := let ⟨o, e, r⟩ := i1₆; ⟨o, k₇ _ _ (by first | exact adn rfl | exact ada rfl | exact adb rfl | exact adl (by assumption) | exact adm (by assumption) | exact adD zlt (by decide) | exact (adD zlt (by decide)).symm | exact adD0 zlt | exact (adD0 zlt).symm | exact adDl zlt (by assumption) | exact adDr zlt hb | exact ad (by omega)) e, r⟩
          i2 := let ⟨o, e, r⟩ := i2₆; ⟨o, k₇ _ _ (by first | exact adn rfl | exact ada rfl | exact adb rfl | exact adl (by assumption) | exact adm (by assumption) | exact adD zlt (by decide) | exact (adD zlt (by decide)).symm | exact adD0 zlt | exact (adD0 zlt).symm | exact adDl zlt (by assumption) | exact adDr zlt hb | exact ad (by omega)) e, r⟩
          i3 := let ⟨o, e, r⟩ := i3₆; ⟨o, k₇ _ _ (by first | exact adn rfl | exact ada rfl | exact adb rfl | exact adl (by assumption) | exact adm (by assumption) | exact adD zlt (by decide) | exact (adD zlt (by decide)).symm | exact adD0 zlt | exact (adD0 zlt).symm | exact adDl zlt (by assumption) | exact adDr zlt hb | exact ad (by omega)) e, r⟩
          t1 := let ⟨o, e, r⟩ := t1₆; ⟨o, k₇ _ _ (by first | exact adn rfl | exact ada rfl | exact adb rfl | exact adl (by assumption) | exact adm (by assumption) | exact adD zlt (by decide) | exact (adD zlt (by decide)).symm | exact adD0 zlt | exact (adD0 zlt).symm | exact adDl zlt (by assumption) | exact adDr zlt hb | exact ad (by omega)) e, r⟩
          t2 := let ⟨o, e, r⟩ := t2₆; ⟨o, k₇ _ _ (by first | exact adn rfl | exact ada rfl | exact adb rfl | exact adl (by assumption) | exact adm (by assumption) | exact adD zlt (by decide) | exact (adD zlt (by decide)).symm | exact adD0 zlt | exact (adD0 zlt).symm | exact adDl zlt (by assumption) | exact adDr zlt hb | exact ad (by omega)) e, r⟩ }
      have zp := pl_zip z₆ z₆
      have F₇ : Fs w (D :: (n + 4) :: av) true hB (cEnv scope none [] (D + 1) env) (fun _ => none) none h₇ := F₆.bump (wr := [n + 5]) (fun b hb => by
        rcases List.mem_cons.mp hb with rfl | hb
        · exact ⟨(wrB _ (.head _)).1, (wrB _ (.head _)).2, _, z₆, zp⟩
        · cases hb) fun b o hb e => k₇ b o (fun e' => hb (e' ▸ .head _)) e
      have seq₇ : ∀ b o it m, h₆.get? b = some o → o.data = .seq it m → h₇.get? b = some o := fun b o it m e hdd => k₇ b o (fun e' => by rw [e'] at e; exact (pl_zip z₆ e).2 _ _ hdd) e
      have l₇ : IsL h₇ D vs.toArray m := seq₇ _ _ _ _ l₆ rfl
      have r₇ := r₆.mono (h' := h₇) fun a o it n' ha e hdd => seq₇ a o it n' e hdd
      have rv₇ := rv.mono (h' := h₇) fun a o it n' ha e hdd => seq₇ a o it n' e hdd
      have sm₇ : Same s₂ { s' with heap := h₇, toks := s'.toks + 1 } := smi.trans ⟨_, _, rfl⟩
      refine htg (D :: (n + 4) :: av) hB (D + 1) ds[i] hmem (Nat.le_succ_of_le hD1) A { s' with heap := h₇, toks := s'.toks + 1 } _ _ (.ref T) _ rm F₇ rv₇ fun s₈ mv₈ F₈ => ?_
      have big : ∀ {b : Nat}, hB.objs.size ≤ b → b ≠ 30 ∧ b ≠ 37 := fun hb => gB.big hb
      have l₈ : IsL s₈.heap D vs.toArray m := mv₈.2 _ _ l₇ (.seq rfl) (big hD1).1 (big hD1).2 (by intro h; cases h)
      have r₈ : Reps (D :: (n + 4) :: av) s₈.heap vs (((ds.take i).filter p).map f) := r₇.mono fun a o it n ha e hd => mv₈.2 a o e (.seq hd) (F₇.sees.gd.ne e fun vs hq => by rw [hd] at hq; cases hq).1 (F₇.sees.gd.ne e fun vs hq => by rw [hd] at hq; cases hq).2 (by intro h; cases h)
      have sm₈ : Same s₂ s₈ := sm₇.trans mv₈.1
      have ne30 : ∀ {h : Heap} (b : Nat) (o : Obj), Gd w h → Z3 n l1 l2 xs ys x t (i + 1) h → (b = l1 ∨ b = l2 ∨ (n ≤ b ∧ b ≤ n + 5)) → b ≠ 30 ∧ b ≠ 37 := fun {h} b o g Z hb => by
        rcases hb with rfl | rfl | hb
        · obtain ⟨o, e, _, m, hdd⟩ := Z.t1; exact g.ne e fun vs hq => by rw [hdd] at hq; cases hq
        · obtain ⟨o, e, _, m, hdd⟩ := Z.t2; exact g.ne e fun vs hq => by rw [hdd] at hq; cases hq
        · exact big (Nat.le_trans hn hb.1)
      have Z₈ : Z3 n l1 l2 xs ys x t (i + 1) s₈.heap := Z₇.keep fun b o hb hp e => mv₈.2 b o e hp (ne30 b o F₇.sees.gd Z₇ hb).1 (ne30 b o F₇.sees.gd Z₇ hb).2 (by intro h; cases h)
      refine ht (D :: (n + 4) :: av) (D + 1) ds[i] hmem A s₈ _ _ rm F₈.sees fun s₉ k₉ => ?_
      have F₉ := F₈.extend k₉.ext
      have l₉ : IsL s₉.heap D vs.toArray m := k₉.ext.all _ _ l₈
      have r₉ := r₈.mono (k₉.ext.seq F₈.sees.gd)
      have Z₉ : Z3 n l1 l2 xs ys x t (i + 1) s₉.heap := Z₈.keep fun b o _ _ e => k₉.ext.all _ _ e
      have drop : ∀ {h' : Heap}, Fs w (D :: (n + 4) :: av) true hB (cEnv scope none [] (D + 1) env) (tf ds[i] fun _ => none) none h' → Fs w (D :: (n + 4) :: av) true hB (cEnv scope none [] (D + 1) env) (fun _ => none) none h' := fun {h'} F => F.less fun y d e => by cases e
      by_cases hp : p ds[i] = true
      · rw [hp, if_pos rfl]
        refine he (D :: (n + 4) :: av) (D + 1) ds[i] hmem hp A s₉ _ _ rm F₉.sees fun y s₁₀ ry k₁₀ => ?_
        have F₁₀ := F₉.extend k₁₀.ext
        have l₁₀ : IsL s₁₀.heap D vs.toArray m := k₁₀.ext.all _ _ l₉
        have r₁₀ := r₉.mono (k₁₀.ext.seq F₉.sees.gd)
        have Z₁₀ : Z3 n l1 l2 xs ys x t (i + 1) s₁₀.heap := Z₉.keep fun b o _ _ e => k₁₀.ext.all _ _ e
        have hvl : vs.length ≤ sizeLine := by
          rw [r₁₀.length, List.length_map]
          refine Nat.le_trans (List.length_filter_le _ _) (Nat.le_trans ?_ hz)
          rw [List.length_take]; exact Nat.min_le_right _ _
        refine wpAny_list_append_plain ⟨m, l₁₀⟩ (fun h' hl' hs' => ?_) (by rw [List.size_toArray]; exact hvl)
        obtain ⟨m', hl'⟩ := hl'
        have hpush : vs.toArray.push y = (vs ++ [y]).toArray := by simp
        rw [hpush] at hl'
        have F₁₁ := F₁₀.upd (.head _) hD1 l₁₀ hl' hs'
        have skD : SeqKeep (D :: (n + 4) :: av) s₁₀.heap h' := fun b o it nn hb e hd => (hs'.2 b fun e' => hb (e' ▸ .head _)).trans e
        have Z₁₁ : Z3 n l1 l2 xs ys x t (i + 1) h' := Z₁₀.keep fun b o hb _ e => (hs'.2 b (by rcases hb with rfl | rfl | hb <;> exact ad (by omega))).trans e
        refine ⟨ds.length - (i + 1), Nat.sub_succ_lt_self _ _ hlt, i + 1, vs ++ [y], m', rfl, hlt, ((sm₈.trans k₉.same).trans k₁₀.same).trans ⟨_, _, rfl⟩, Z₁₁, drop F₁₁, hl', ?_⟩
        rw [htake, List.filter_append, List.map_append]
        simp only [List.filter_cons, hp, if_true, List.filter_nil, List.map_cons, List.map_nil]
        exact (r₁₀.append (.cons ry .nil)).mono skD
      · rw [Bool.not_eq_true] at hp
        rw [hp, if_neg Bool.false_ne_true]
        refine ⟨ds.length - (i + 1), Nat.sub_succ_lt_self _ _ hlt, i + 1, vs, m, rfl, hlt, sm₈.trans k₉.same, Z₉, drop F₉, l₉, ?_⟩
        rw [htake, List.filter_append]
        simp only [List.filter_cons, hp, Bool.false_eq_true, if_false, List.filter_nil, List.append_nil]
        exact r₉
    · have hie : i = ds.length := Nat.le_antisymm hi hge
      subst hie
      refine zip3End rm.hd a1 st.z st.ti st.i1 st.t1 (by rw [hl]; simp) fun h₆ k₆ => ?_
      have kk₆ : ∀ b o, b ∉ [n + 5, n, n + 1, n + 2] → s'.heap.get? b = some o → h₆.get? b = some o := fun b o hb e => k₆ b o (fun e => hb (by simp [e])) (fun e => hb (by simp [e])) e
      have F₆ := Fi.bump (wrZ st) kk₆
      have l₆ : IsL h₆ D vs.toArray m := kk₆ _ _ (fun hb => wrD D hb rfl) lDi
      have r₆ : Reps (D :: (n + 4) :: av) h₆ vs ((ds.filter p).map f) := by
        rw [List.take_of_length_le (Nat.le_refl _)] at ri
        exact ri.mono fun a o it n' ha e hd => kk₆ a o (fun hb => by
          obtain ⟨_, _, o', e', _, hn⟩ := wrZ st a hb
          rw [e] at e'; cases e'; exact hn _ _ hd) e
      obtain ⟨mm, hmm⟩ := F₆.ns
      refine ⟨mm, hmm, fun h' hs' => ?_⟩
      have hne : ∀ {b : Addr} {o : Obj}, h₆.get? b = some o → (∀ es n, o.data ≠ .dict es n) → h'.get? b = some o := fun {b o} e hd => (hs'.2 b fun e' => by
        obtain ⟨o', es, ep, e2, hd2, _⟩ := hmm
        rw [e', show D + 1 = (cEnv scope none [] (D + 1) env).locals from rfl, e2] at e; cases e; exact hd _ _ hd2).trans e
      have x16 : Ext w true hB h' := F₆.ext.but F₆.g0 F₆.fresh hs' fun o vs e hd => by
        obtain ⟨o', es, ep, e2, hd2, _⟩ := hmm
        rw [e2] at e; cases e; rw [hd] at hd2; cases hd2
      obtain ⟨h6, t6, rfl⟩ := smi
      exact h _ h' t6 (.list (fun ha => absurd (avlt _ ha) (Nat.not_lt.mpr hD1)) (hne l₆ fun _ _ e => by cases e) ((r₆.less fun a ha => .tail _ (.tail _ ha)).mono fun a o it n ha e hd => hne e fun es m hq => by rw [hd] at hq; cases hq)) x16
  have hsm4 : Same s₂ { s₂ with heap := H4 } := ⟨_, _, rfl⟩
  exact codeAny_compStart_list (loop _ rfl hsm4) (wpAny_pyIter_zip st4.z (loop _ rfl hsm4))
end
end Mine

set_option maxRecDepth 100000
set_option maxHeartbeats 1000000
namespace Mine

theorem slice_tx {r : List Nat} {sp : Int} (hr : r.length = 10) (hsp : sp = 7 ∨ sp = 4 ∨ sp = 1) (t t1 t2 : Tok) : sliceMade (tx r) t (some (sp, t1)) (some (sp + 3, t2)) none = .str (tx ((r.drop sp.toNat).take 3)) := by
  match r, hr with
  | [a, b, c, d, e, f, g, h, i, j], _ =>
    rcases hsp with rfl | rfl | rfl <;> rfl

section
variable {w : Wd} {av : List Addr} {k : Nat} {q : Bool} {env : Env} {σ : Sg}
theorem Ev.sliceS {v a b : Expr} {p pos : Pos} {r : List Nat} {sp : Int} (hr : r.length = 10) (hsp : sp = 7 ∨ sp = 4 ∨ sp = 1) (hv : Ev w av k q env σ v (.str (tx r))) (ha : Ev w av k q env σ a (.int sp)) (hb : Ev w av k q env σ b (.int (sp + 3)))
    (ht : autoParam (∀ o r, letTemporaryGo v o r = pure ()) PySem.Subscript_Name._auto_1) : Ev w av k q env σ (.Subscript v (.Slice (some a) (some b) none p) pos) (.str (tx ((r.drop sp.toNat).take 3))) := fun A s E Q rm n h => by
  refine wpAny_Subscript_str_slice (hv A s E _ rm n fun o s₁ ro k₁ => ?_) ht
  rw [evalPart_some, evalPart_some]
  refine ha A s₁ E _ rm (n.kp k₁) fun vl s₂ rl k₂ => hb A s₂ E _ rm ((n.kp k₁).kp k₂) fun vu s₃ ru k₃ => ?_
  cases ro with | str _ t =>
  cases rl with | int _ t1 =>
  cases ru with | int _ t2 =>
  refine ⟨_, _, some (sp, t1), some (sp + 3, t2), rfl, rfl, rfl, ?_⟩
  rw [slice_tx hr hsp]
  exact ⟨by rw [tx_length, List.length_take]; exact Nat.le_trans (Nat.min_le_left _ _) (by decide), h _ _ (.str _ _) (((k₁.trans k₂).trans k₃).trans ⟨_, _, rfl, .push _⟩)⟩
end

theorem hfree_of {l : List (Str × NameKind)} (h : l.all (fun x => !(x.2 == .free)) = true) : ∀ x ∈ l, x.2 ≠ .free := fun x hx e => by
  have := List.all_eq_true.mp h x hx
  rw [e] at this; cases this
/-- a built-in is called with one value -/
theorem callB1 {w : Wd} {av : List Addr} {env : Env} {σ : Sg} {A : Around} {E : Value → Shared → Prop} {s : Shared} {Q : Value → Shared → Prop} {f : Str} {p pos : Pos} {e : Expr} {id : String} (n : Sees w av s.heap env σ) (hb : bootBuiltins f = some (.builtin id))
    (he : wpAny (model PP w.w) A (eval e env) (fun y s₁ => wpAny (model PP w.w) A (call (.builtin id) [y]) Q E s₁) E s)
    (hf : autoParam (nsIn (hd.heap_39 w.params) mainGlobals f = some none) PyProof.Rows.call_M_of_MD._auto_3) (hn : autoParam (f ≠ "__name__") PyProof.Rows.glB_def._auto_7)
    (hk : autoParam (env.kindOf f = some .globalImplicit) PyProof.Rows.call_M_of_MD._auto_3) (hs : autoParam (starEach [e] env = [(false, eval e env)]) PyProof.Rows.call_M_of_MD._auto_3) (hd' : autoParam ((f == ("__debug__" : Str)) = false) PyProof.Rows.glB_def._auto_7) :
    wpAny (model PP w.w) A (eval (.Call (.Name f p) [e] [] pos) env) Q E s := by
  refine Call_Name rfl (name_boot n hk hf hb hn ?_ hd')
  have this : wpAny (model PP w.w) A (spliced (backTo pos (starEach [e] env))) (fun ys s₁ => wpAny (model PP w.w) A (call (.builtin id) ys) Q E s₁) E s := wpAny_items_cons (wpAny_mono he (fun y s₁ h₁ => wpAny_items_nil h₁) fun _ _ x => x) hs
  rw [hs] at this ⊢
  exact callWith_builtin rfl (evalArgs_plain this)

/-- a def is entered; its end is told of the whole run alone -/
theorem Cal.defnS {w : Wd} {k : Nat} {a : Addr} {o : Obj} {fd : FuncData} {body : List Stmt} {xs : List Str} {ds : List D} {d : D} (ho : (hd.heap_39 w.params).lookup a = some o) (hfd : o.data = .func fd) (hbody : fd.body = .stmts body)
    (hcd : codeIn (hd.heap_39 w.params) fd.code fd.qualname = true) (hg : fd.globals = mainGlobals) (hbl : fd.builtins = builtinsNs) (hcell : ∀ x ∈ fd.scope.names, x.2 ≠ .cell) (hloc : ∀ x ∈ xs, fd.scope.names.lookup x = some .local ∧ (x == ("__debug__" : Str)) = false)
    (hbind : ∀ vs : List Value, vs.length = ds.length → bindArgs fd ⟨vs, []⟩ = pure (xs.zip vs))
    (h : ∀ (A : Around) (s : Shared) (E : Value → Shared → Prop) (Q : Flow → Shared → Prop) h₀ L av, Room k A → Gv w av h₀ → Fs w av true h₀ (callEnv fd L a) (sg xs ds) none s.heap → (∀ f s', Same s s' → RetD w true h₀ av d f s'.heap → Q f s') → wpAny (model PP w.w) A (execs body (callEnv fd L a)) Q E s)
    (hco : autoParam (fd.scope.isCoroutine = false) PyProof.Rows.call_M_of_MD._auto_3) (hgen : autoParam (fd.scope.isGenerator = false) PyProof.Rows.call_M_of_MD._auto_3) (hk : autoParam (fd.scope.kind = .function) PyProof.Rows.call_M_of_MD._auto_3) : Cal w (k + 1) true (.ref a) ds d := fun av A s E Q vs rm g rs hQ => by
  have hz : ∀ y ∈ xs.zip vs, y.1 ∈ xs := fun y hy => (List.of_mem_zip hy).1
  refine wpAny_call (codeAny_call_def rm.dep (g.gd.X _ _ ho) hfd g.gd.lim (codeRec_of g.gd.X hcd) hbody (BindsTo.of_eq (hbind vs rs.length)) hcell (fun y hy => (hloc _ (hz y hy)).1) (fun h₁ hns hkeep => ?_) hco hgen hk)
  have x1 : Ext w true s.heap h₁ := .of hkeep
  have F : Fs w av true s.heap (callEnv fd s.heap.objs.size a) (sg xs ds) none h₁ :=
    { sees := ⟨hk, hg, hbl, g.ext x1, fun x d e => by
        obtain ⟨v, e1, r⟩ := zip_lookup rs e
        have hx : x ∈ xs := hz (x, v) (List.mem_reverse.mp (PySem.mem_of_lookup e1))
        exact ⟨v, ⟨(hloc x hx).2, .inl ⟨(hloc x hx).1, _, hns, e1⟩⟩, r.mono (x1.seq g.gd)⟩⟩
      g0 := g.gd
      ext := x1
      ns := ⟨_, hns⟩
      fresh := Nat.le_refl _
      cel := fun n c e => absurd (PySem.mem_of_lookup (show fd.scope.names.lookup n = some .cell from e)) fun hm => hcell _ hm rfl
      apart := fun n n' c e => absurd (PySem.mem_of_lookup (show fd.scope.names.lookup n' = some .cell from e)) fun hm => hcell _ hm rfl
      own := trivial }
  refine h _ { s with heap := h₁, toks := _ } _ _ s.heap s.heap.objs.size av (rm.deeper _) g F fun f s' sm hr => ?_
  obtain ⟨v, rfl, r, x2⟩ := hr
  obtain ⟨h', tk, rfl⟩ := sm
  exact hQ v _ r ⟨_, _, rfl, x2⟩

noncomputable def inS (l : List Nat) (c : Nat) : Bool := !(Builtin.Str.occurrences (tx l) ⟨#[c]⟩ 0 (tx l).length 1).isEmpty
noncomputable def shownL (a b c : Nat) : List Int := (if inS [114] a = true then [4] else []) ++ ((if inS [119] b = true then [2] else []) ++ (if inS [120, 115, 116] c = true then [1] else []))
noncomputable def shownV (r : List Nat) (sp : Nat) : Int := (shownL (r.getD sp 0) (r.getD (sp + 1) 0) (r.getD (sp + 2) 0)).sum
noncomputable def shD (a b c : Nat) : List D := [.tup [.int 4, .str (tx [114]), .str ⟨#[a]⟩], .tup [.int 2, .str (tx [119]), .str ⟨#[b]⟩], .tup [.int 1, .str (tx [120, 115, 116]), .str ⟨#[c]⟩]]
noncomputable def shP : D → Bool
  | .tup [_, .str l, .str s] => !(Builtin.Str.occurrences l s 0 l.length 1).isEmpty
  | _ => false
noncomputable def shF : D → D
  | .tup (d :: _) => d
  | d => d
theorem shD_eq (a b c : Nat) : ((shD a b c).filter shP).map shF = (shownL a b c).map .int := by
  have e1 : shP (.tup [.int 4, .str (tx [114]), .str ⟨#[a]⟩]) = inS [114] a := rfl
  have e2 : shP (.tup [.int 2, .str (tx [119]), .str ⟨#[b]⟩]) = inS [119] b := rfl
  have e3 : shP (.tup [.int 1, .str (tx [120, 115, 116]), .str ⟨#[c]⟩]) = inS [120, 115, 116] c := rfl
  unfold shD shownL
  rw [List.filter_cons, List.filter_cons, List.filter_cons, List.filter_nil, e1, e2, e3]
  cases inS [114] a <;> cases inS [119] b <;> cases inS [120, 115, 116] c <;> rfl
theorem shD_mem {a b c : Nat} {d : D} (hd : d ∈ shD a b c) : ∃ (x : Int) (l s : Str), d = .tup [.int x, .str l, .str s] := by
  rcases List.mem_cons.mp hd with rfl | hd
  · exact ⟨_, _, _, rfl⟩
  rcases List.mem_cons.mp hd with rfl | hd
  · exact ⟨_, _, _, rfl⟩
  rcases List.mem_cons.mp hd with rfl | hd
  · exact ⟨_, _, _, rfl⟩
  cases hd
theorem shD_get {a b c i : Nat} {d : D} (hd : (shD a b c)[i]? = some d) : (i = 0 ∧ d = .tup [.int 4, .str (tx [114]), .str ⟨#[a]⟩]) ∨ (i = 1 ∧ d = .tup [.int 2, .str (tx [119]), .str ⟨#[b]⟩]) ∨ (i = 2 ∧ d = .tup [.int 1, .str (tx [120, 115, 116]), .str ⟨#[c]⟩]) := by
  match i, hd with
  | 0, hd => cases hd; exact .inl ⟨rfl, rfl⟩
  | 1, hd => cases hd; exact .inr (.inl ⟨rfl, rfl⟩)
  | 2, hd => cases hd; exact .inr (.inr ⟨rfl, rfl⟩)
theorem take_three {r : List Nat} {sp : Int} (hr : r.length = 10) (hsp : sp = 7 ∨ sp = 4 ∨ sp = 1) : (r.drop sp.toNat).take 3 = [r.getD sp.toNat 0, r.getD (sp.toNat + 1) 0, r.getD (sp.toNat + 2) 0] := by
  match r, hr with
  | [a, b, c, d, e, f, g, h, i, j], _ =>
    rcases hsp with rfl | rfl | rfl <;> rfl
theorem boot_zip : bootBuiltins (Str.ofString "zip") = some (.type "zip") := by decide +kernel

section
variable {w : Wd} {k : Nat} {q : Bool}
theorem no_zip : nsIn (hd.heap_39 w.params) mainGlobals (Str.ofString "zip") = some none := by rfl
theorem no_sum : nsIn (hd.heap_39 w.params) mainGlobals (Str.ofString "sum") = some none := by rfl
theorem at_shown : DefAt w (Str.ofString "_law_shown") 122 := .of rfl rfl
theorem cal_shown' {r : List Nat} {sp : Int} (hr : r.length = 10) (hsp : sp = 7 ∨ sp = 4 ∨ sp = 1) (h128 : r.all (· < 128) = true) : Cal w (k + 1) true (.ref 122) [.str (tx r), .int sp] (.int (shownV r sp.toNat)) := by
  refine Cal.defnS (xs := [Str.ofString "row", Str.ofString "spot"]) (by rfl) (by rfl) (by rfl) (by rfl) (by rfl) (by rfl) (by decide) (by decide) ?_ ?_
  · intro vs hv
    obtain ⟨_, _, rfl⟩ := len2 hv
    rfl
  · intro A s E Q h₀ L av rm gv F hQ
    refine wpAny_execs_cons (wpAny_Assign_Name (Call_Name rfl (name_boot F.sees (by rfl) no_zip boot_zip (by decide) (PyProof.Rows.callWith_type rfl (evalArgs_plain ?_)) (by decide))))
    refine Evs.cons (w := w) (av := av) (k := k) (q := true) (σ := sg [Str.ofString "row", Str.ofString "spot"] [.str (tx r), .int sp]) (Ev.tup (Evs.cons Ev.int (Evs.cons Ev.int (Evs.cons Ev.int .nil)))) (Evs.cons (Ev.tup (Evs.cons Ev.str (Evs.cons Ev.str (Evs.cons Ev.str .nil)))) (Evs.cons (Ev.sliceS hr hsp (Ev.name rfl) (Ev.name rfl) (Ev.bin (Ev.name rfl) Ev.int Bin.add)) .nil)) rfl _ A s E _ rm F.sees fun ys s₁ rs k₁ => ?_
    cases rs with | cons r1 rs =>
    cases rs with | cons r2 rs =>
    cases rs with | cons r3 rs =>
    cases rs
    cases r3 with | str _ t =>
    cases r1 with | @tup l1 vs1 m1 _ ha1 hl1 r1 =>
    cases r2 with | @tup l2 vs2 m2 _ ha2 hl2 r2 =>
    have F₁ := F.extend k₁.ext
    have lt1 : l1 < s₁.heap.objs.size := Heap.lt_size hl1
    have lt2 : l2 < s₁.heap.objs.size := Heap.lt_size hl2
    rw [take_three hr hsp]
    cases r1 with | cons w1 r1 =>
    cases r1 with | cons w2 r1 =>
    cases r1 with | cons w3 r1 =>
    cases r1
    cases w1; cases w2; cases w3
    cases r2 with | cons w1 r2 =>
    cases r2 with | cons w2 r2 =>
    cases r2 with | cons w3 r2 =>
    cases r2
    cases w1; cases w2; cases w3
    have hall : ∀ j, r.getD j 0 < 128 := fun j => by
      rw [List.getD_eq_getElem?_getD]
      cases e : r[j]? with
      | none => exact (by decide : (0 : Nat) < 128)
      | some c => exact of_decide_eq_true (List.all_eq_true.mp h128 c (List.mem_of_getElem? e))
    generalize ha : r.getD sp.toNat 0 = ca at *
    generalize hb : r.getD (sp.toNat + 1) 0 = cb at *
    generalize hc : r.getD (sp.toNat + 2) 0 = cc at *
    refine call_zip3 (xs := _) (ys := _) ?_ ⟨_, hl1, rfl, _, rfl⟩ ⟨_, hl2, rfl, _, rfl⟩ fun h' z₁ ti₁ to₁ i1₁ i2₁ i3₁ t1₁ t2₁ old₁ sz₁ => ?_
    · have h1 : ca < 128 := ha ▸ hall _
      have h2 : cb < 128 := hb ▸ hall _
      have h3 : cc < 128 := hc ▸ hall _
      simp [tx, h1, h2, h3]
    have hL : h₀.objs.size ≤ s₁.heap.objs.size := by obtain ⟨m, nn⟩ := F₁.ns; exact Nat.le_trans F₁.fresh (Nat.le_of_lt nn.lt)
    generalize hn : s₁.heap.objs.size = n at *
    have F₂ := F₁.extend (Ext.of old₁ : Ext w true s₁.heap h')
    refine F₂.putV (s := { s₁ with heap := h' }) (x := Str.ofString "pairs") (v := .ref (n + 5)) (σ' := fun _ => none) (ω' := none) (.inl rfl) (by decide) (fun y d e => by cases e) (fun _ _ _ _ => trivial) fun s₃ sm₃ sq V F₃ => ?_
    have Z := Z3.keep (h' := s₃.heap) ⟨z₁, ti₁, ⟨_, _, _, to₁⟩, i1₁, i2₁, i3₁, t1₁, t2₁⟩ fun b o _ hp e => sq b o e hp
    refine wpAny_execs_cons (wpAny_Return_some (callB1 F₃.sees boot_sum ?_))
    rw [eval_ListComp]
    refine wpAny_comprehension_free (use := none) rfl (fun _ => rfl) (cl := []) rfl rfl (by decide) (wpAny_Name (V.load F₃.sees.kind (wpAny_pyIter_zip Z.z ?_)) V.1)
    refine comp_zip3 (w := w) (av := av) (k := k) (hB := h₀) (ds := shD ca cb cc) (p := shP) (f := shF) (fun d σ => match d with | .tup ds => σ.sets [Str.ofString "worth", Str.ofString "letters", Str.ofString "sign"] ds | _ => σ) rm rfl rfl F.g0 gv (fun b o e => F₃.ext.all _ _ e) hL lt1 lt2 Z rfl ?_ (fun _ => rfl) (fun _ => rfl) (hcell_of rfl) (hfree_of rfl) ?_ ?_ ?_ (by show 3 ≤ 16777216; decide) rfl ?_
    · intro i d hd
      rcases shD_get hd with ⟨rfl, rfl⟩ | ⟨rfl, rfl⟩ | ⟨rfl, rfl⟩ <;> exact ⟨_, _, _, _, _, rfl, rfl, rfl, rfl, fun _ _ => .int _ _, fun _ _ => .str _ _⟩
    · intro av' h₁ C d hd hC
      obtain ⟨a, b, c, rfl⟩ := shD_mem hd
      exact Tgt.tup (sto_assign ⟨.inl rfl, by decide⟩ (sto_assign ⟨.inl rfl, by decide⟩ (sto_assign ⟨.inl rfl, by decide⟩ sto_nil))) (fun _ _ _ e => by cases e) rfl
    · intro av' C d hd
      obtain ⟨a, b, c, rfl⟩ := shD_mem hd
      exact Tsts.one (Tr.cmp (Ev.name rfl) (Ev.name rfl) Cmp.inS)
    · intro av' C d hd hp
      obtain ⟨a, b, c, rfl⟩ := shD_mem hd
      exact Ev.name rfl
    · intro y h'' tk ry x16
      rw [shD_eq] at ry
      refine Cal.sum (w := w) (k := k) (q := true) av A _ E _ [y] rm (gv.ext x16) (.cons ry .nil) fun v s₅ rv k₅ => ?_
      have es : shownV r sp.toNat = (shownL ca cb cc).sum := by unfold shownV; rw [ha, hb, hc]
      rw [es] at hQ
      exact hQ (.ret v) s₅ (((k₁.same.trans (Same.trans ⟨_, _, rfl⟩ sm₃)).trans ⟨_, _, rfl⟩).trans k₅.same) ⟨v, rfl, rv, x16.trans k₅.ext⟩
theorem cal_shown {r : List Nat} {sp : Int} (hr : r.length = 10) (hsp : sp = 7 ∨ sp = 4 ∨ sp = 1) (h128 : r.all (· < 128) = true) : Cal w (k + 1) q (.ref 122) [.str (tx r), .int sp] (.int (shownV r sp.toNat)) := (cal_shown' hr hsp h128).weak
end
end Mine

set_option maxRecDepth 100000
set_option maxHeartbeats 1000000
namespace Mine
section
variable {w : Wd} {av : List Addr} {k : Nat} {q : Bool} {h₀ : Heap} {env : Env} {σ : Sg} {ω : Om} {R : Flow → Heap → Prop} {rest : List Stmt}

theorem not_dict {h : Heap} {C b : Addr} {m : Str → Option Value} {o : Obj} (hn : h.Ns C m) (e : h.get? b = some o) (hd : ∀ es n, o.data ≠ .dict es n) : b ≠ C := fun q => by
  obtain ⟨o', es, ep, e2, hd2, _⟩ := hn
  rw [q, e2] at e; cases e; exact hd _ _ hd2

/-- a table of names that is none of the frame's has changed -/
theorem Fs.dictOff {h h' : Heap} {C : Addr} {m : Str → Option Value} (F : Fs w av q h₀ env σ ω h) (hC : h₀.objs.size ≤ C) (hn : h.Ns C m) (hl : C ≠ env.locals) (hs : Heap.SameBut C h h') : Fs w av q h₀ env σ ω h' := by
  have pl : ∀ b o, h.get? b = some o → Pl o → h'.get? b = some o := fun b o e hp => (hs.2 _ (not_dict hn e hp.1)).trans e
  have sk : ∀ {av : List Addr}, SeqKeep av h h' := fun {av} a o it n _ e hd => pl a o e (.seq hd)
  have nf : ∀ o vs, h.get? C = some o → o.data ≠ .fields vs := fun o vs e hd => by
    obtain ⟨o', es, ep, e2, hd2, _⟩ := hn
    rw [e2] at e; cases e; rw [hd] at hd2; cases hd2
  have cl : ∀ {c : Addr} {v : Option Value}, h.IsCell c v → h'.IsCell c v := fun {c v} hc => hc.sameBut hs fun q => by
    obtain ⟨o, e, hd⟩ := hc
    exact not_dict hn e (fun es n e => by rw [hd] at e; cases e) q
  have old : ∀ {a : Addr} {m : Str → Option Value}, h.Ns a m → a ≠ C → h'.Ns a m := fun n hne => n.sameBut hs hne
  have g' : Gd w h' := F.sees.gd.but F.g0 hC hs nf
  have vr : ∀ {y : Str} {u : Value}, Var h env y u → Var h' env y u := fun {y u} V => ⟨V.1, by
    rcases V.2 with ⟨a, m, b, c⟩ | ⟨a, c, b, d⟩ | ⟨a, a', c, b, d⟩
    · exact .inl ⟨a, m, old b (Ne.symm hl), c⟩
    · exact .inr (.inl ⟨a, c, b, cl d⟩)
    · exact .inr (.inr ⟨a, a', c, b, cl d⟩)⟩
  exact
    { sees := ⟨F.sees.kind, F.sees.glob, F.sees.blt, ⟨g', fun b hb => by
        obtain ⟨q1, o, e, hp⟩ := F.sees.gv.own b hb
        exact ⟨q1, o, pl _ _ e hp, hp⟩, F.sees.gv.kn⟩, fun y d e => by
        obtain ⟨v, V, r⟩ := F.sees.var y d e
        exact ⟨v, vr V, r.mono sk⟩⟩
      g0 := F.g0
      ext := F.ext.but F.g0 hC hs nf
      ns := let ⟨m, hm⟩ := F.ns; ⟨m, old hm (Ne.symm hl)⟩
      fresh := F.fresh
      cel := fun n c a b h1 => let ⟨v, h2⟩ := F.cel n c a b h1; ⟨v, cl h2⟩
      apart := F.apart
      own := by
        have := F.own
        cases ω with
        | none => trivial
        | some p =>
          obtain ⟨x, a, ds⟩ := p
          obtain ⟨h1, h2, h3, vs, n, l, r⟩ := this
          exact ⟨h1, h2, vr h3, vs, n, pl _ _ l (.seq rfl), r.mono sk⟩ }

/-- a comprehension whose value is stored ahead of its own names' going -/
theorem Ex.compS {x : Str} {elt target iter : Expr} {px pos spos : Pos} {ifs : List Expr} {scope : Scope} {own : Option Str} {cl : List (Str × Addr)} {caps : List Str} {ds : List D} {p : D → Bool} {f : D → D} (tf : D → Sg → Sg) (hit : Lps w av k q env σ target iter ds)
    (hclos : closureFor scope env = pure cl) (hcs : ∀ N, cellsFrom N scope.names cl = ownC own N ++ cl) (hph : ∀ h, pushCells h scope.names = ownH own h) (hcap : ∀ y ∈ caps, Cap' env scope own cl y) (hσ : ∀ y ∈ caps, ∃ d, σ y = some d)
    (hk1 : ∀ r ∈ (relabel scope env).names, r.2 = .cell → own = some r.1 ∨ r.1 ∈ caps) (hk2 : ∀ r ∈ (relabel scope env).names, r.2 = .free → r.1 ∈ caps)
    (htg : ∀ av' h₀ C d, d ∈ ds → h₀.objs.size ≤ C → Tgt w av' k true h₀ (cEnv scope own cl C env) target d (tf d) none)
    (htf : ∀ d y, y ∈ caps → tf d (σr σ caps) y = σ y)
    (ht : ∀ av' C d, d ∈ ds → Tsts w av' k (cEnv scope own cl C env) (tf d (σr σ caps)) ifs (p d)) (he : ∀ av' C d, d ∈ ds → p d = true → Ev w av' k true (cEnv scope own cl C env) (tf d (σr σ caps)) elt (f d)) (hz : ds.length ≤ sizeLine)
    (hx : Sto h₀ env x) (hxl : env.kindOf x = some .local) (h : Ex w k q h₀ env av (σ.set x (.list ((ds.filter p).map f))) ω rest R) (hω : autoParam (ω.not x) hold_tIE._auto_1)
    (hsw : autoParam (swapsWith (.ListComp elt [⟨target, iter, ifs, 0⟩] scope pos) (some (.Name x px)) spos.line env = pure true) PyProof.Rows.call_M_of_MD._auto_3)
    (hkind : autoParam (scope.kind = .function) PyProof.Rows.call_M_of_MD._auto_3) (hnames : autoParam (∀ y ∈ scope.names, y.2 = .local → scope.names.lookup y.1 = some .local) PyProof.Rows.glB_def._auto_7)
    (hs : autoParam (∀ x, foldedSetIterable iter env x = pure x) PyProof.Rows.Assign_ListComp_rowsP._auto_1) :
    Ex w k q h₀ env av σ ω (.Assign [.Name x px] (.ListComp elt [⟨target, iter, ifs, 0⟩] scope pos) spos :: rest) R := fun A s E Q rm F hQ => by
  refine wpAny_execs_cons ?_
  rw [exec_Assign_Name_used _ _ _ _ hsw]
  refine wpAny_bind (wpAny_standAt (wpAny_bind ?_))
  show wpAny _ A (do let _ ← comprehension (.ListComp elt [⟨target, iter, ifs, 0⟩] scope pos) scope env _ (newList []) false (eval iter env) (some (PySem.assign (.Name x px) env))) _ _ s
  refine wpAny_bind (wpAny_mono (wpAny_comprehension_free (Q := fun _ s' => wpAny (model PP w.w) A (execs rest env) Q E s') rfl hs hclos hkind hnames (hit A s E _ rm F.sees fun s₁ s₂ J wr St Md k₁ sm lp => ?_)) (fun _ s' hq => wpAny_pure (wpAny_pure hq)) fun _ _ e => e)
  have F₁ := F.extend k₁.ext
  have n₁ := F₁.sees
  refine comp_coreR (RR := fun acc C => compPost (model PP w.w) A E (some (PySem.assign (.Name x px) env)) (fun _ s' => wpAny (model PP w.w) A (execs rest env) Q E s') acc C) tf rm (n₁.ext (Ext.of (q := true) lp.old)) n₁.gd lp n₁.gv.lt hcs hph hcap (fun y hy c hc => ?_) hk1 hk2 htg htf ht he hz hkind fun D C s₆ vs m sm₆ x₆ hD l₆ r₆ hns hC => ?_
  · obtain ⟨d, hd⟩ := hσ y hy
    obtain ⟨v, V, _⟩ := n₁.var y d hd
    obtain ⟨c', _, h2, h3⟩ := hcap y hy
    rcases V.2 with ⟨a, _⟩ | ⟨_, c2, b, ic⟩ | ⟨_, _, c2, b, ic⟩
    · rcases h3 with h3 | h3 <;> (rw [h3.1] at a; cases a)
    · rw [hc] at b; cases b; exact ic.lt
    · rw [hc] at b; cases b; exact ic.lt
  · obtain ⟨mm, hmm⟩ := hns
    have F₆ := F₁.extend x₆.weak
    have hll : env.locals < s₁.heap.objs.size := by obtain ⟨m, n⟩ := F₁.ns; exact n.lt
    have hCl : C ≠ env.locals := Nat.ne_of_gt (Nat.lt_of_lt_of_le hll hC)
    refine wpAny_assign_Name (F₆.putW (σ' := σ.set x (.list ((ds.filter p).map f))) (ω' := ω) hx.1 hx.2 (fun y e hy => ?_) (fun h' hv _ hk => F₆.own.keepSeq hω hv hk) fun s₇ sm₇ sq₇ V₇ F₇ sb₇ => ?_)
    · unfold Sg.set at hy
      split at hy
      · rename_i hyx; cases hy; exact .inl ⟨hyx, .list hD l₆ (r₆.less fun a ha => .tail _ ha)⟩
      · rename_i hyx; exact .inr ⟨hyx, hy⟩
    · have hm₇ := hmm.sameBut (sb₇ hxl) hCl
      refine ⟨mm, hm₇, fun h' hs' => ?_⟩
      have F₈ := F₇.dictOff (Nat.le_trans (Nat.le_trans F.fresh (Nat.le_of_lt hll)) hC) hm₇ hCl hs'
      refine h A { s₇ with heap := h' } E Q rm F₈ fun fl s₉ mv hr => hQ fl s₉ (Mv.trans ⟨((k₁.same.trans (sm.trans sm₆)).trans sm₇).trans ⟨_, _, rfl⟩, fun b o e hp h1 h2 _ => ?_⟩ mv) hr
      have e₇ := sq₇ b o (x₆.all _ _ (k₁.ext.keep b o (.inr ⟨h1, h2⟩) e)) hp
      exact (hs'.2 _ (not_dict hm₇ e₇ hp.1)).trans e₇
end
end Mine

set_option maxRecDepth 100000
set_option maxHeartbeats 1000000
namespace Mine

theorem sto_cell {h₀ : Heap} {env : Env} {x : Str} (j : Nat) (hk : env.kindOf x = some .cell) (hc : env.cells.lookup x = some (h₀.objs.size + j)) (hd : autoParam ((x == ("__debug__" : Str)) = false) PyProof.Rows.glB_def._auto_7) : Sto h₀ env x := ⟨.inr ⟨hk, _, hc, Nat.le_add_right _ j⟩, hd⟩
theorem sto_loc {h₀ : Heap} {env : Env} {x : Str} (hk : env.kindOf x = some .local) (hd : autoParam ((x == ("__debug__" : Str)) = false) PyProof.Rows.glB_def._auto_7) : Sto h₀ env x := ⟨.inl hk, hd⟩

section
variable {w : Wd} {av : List Addr} {k : Nat} {q : Bool} {h₀ : Heap} {env : Env} {σ : Sg} {ω : Om} {R : Flow → Heap → Prop} {rest : List Stmt}

/-- an object is new and is to be the frame's own list -/
theorem Fs.newL {h : Heap} (F : Fs w av q h₀ env σ none h) : Fs w (h.objs.size :: av) q h₀ env σ none (h.push { cls := .type "list", data := .seq ([] : List Value).toArray }) := by
  have hn : h.get? h.objs.size = none := Heap.get?_none_of_le (Nat.le_refl _)
  have x1 : Ext w q h (h.push { cls := .type "list", data := .seq ([] : List Value).toArray }) := .push _
  have F₁ := F.extend x1
  have hg : (h.push { cls := .type "list", data := .seq ([] : List Value).toArray }).get? h.objs.size = some { cls := .type "list", data := .seq ([] : List Value).toArray } := Heap.get?_push_size _ rfl
  have ne : 142 ≤ h.objs.size := F.sees.gd.size
  exact
    { F₁ with
      sees := ⟨F.sees.kind, F.sees.glob, F.sees.blt, ⟨F₁.sees.gd, fun a ha => (List.mem_cons.mp ha).elim (fun e => e ▸ ⟨ne, _, hg, .seq rfl⟩) (F₁.sees.gv.own a), fun a ha => (List.mem_cons.mp ha).elim (fun e => e ▸ F.sees.gd.kfree hn) (F₁.sees.gv.kn a)⟩, fun y d e => by
        obtain ⟨v, a, b⟩ := F.sees.var y d e
        exact ⟨v, a.ext F.sees.gd x1, (b.more hn).mono (x1.seq F.sees.gd)⟩⟩
      own := trivial }

/-- three names, the middle one an empty list that is to be filled -/
theorem Ex.tupNew {x1 x2 x3 : Str} {e1 e3 : Expr} {p1 p2 p3 lp tp vp pos : Pos} {kk kv : Nat} {d1 d3 : D} (he1 : Ev w av k q env σ e1 d1) (he3 : ∀ a, a ∉ av → Ev w (a :: av) k q env σ e3 d3)
    (hx1 : Sto h₀ env x1) (hx2 : Sto h₀ env x2) (hx3 : Sto h₀ env x3) (h32 : x3 ≠ x2)
    (h : ∀ a, a ∉ av → Ex w k q h₀ env (a :: av) (Sg.set (fun y => if y = x2 then none else (σ.set x1 d1) y) x3 d3) (some (x2, a, [])) rest R)
    (hs1 : autoParam (starEach [e1, .List [] lp, e3] env = (false, eval e1 env) :: starEach [.List [] lp, e3] env) PyProof.Rows.call_M_of_MD._auto_3) (hs3 : autoParam (starEach [e3] env = (false, eval e3 env) :: starEach [] env) PyProof.Rows.call_M_of_MD._auto_3)
    (hst : autoParam ((assignEach [.Name x1 p1, .Name x2 p2, .Name x3 p3] env).findIdx? (·.1) = none) PyProof.Rows.call_M_of_MD._auto_3)
    (hs : autoParam (swapsWithSole [.Tuple [.Name x1 p1, .Name x2 p2, .Name x3 p3] kk tp] (.Tuple [e1, .List [] lp, e3] kv vp) pos.line env = pure false) PyProof.Rows.call_M_of_MD._auto_3) (hw : autoParam (swappedStores [.Tuple [.Name x1 p1, .Name x2 p2, .Name x3 p3] kk tp] (.Tuple [e1, .List [] lp, e3] kv vp) env = pure none) PyProof.Rows.call_M_of_MD._auto_3) :
    Ex w k q h₀ env av σ none (.Assign [.Tuple [.Name x1 p1, .Name x2 p2, .Name x3 p3] kk tp] (.Tuple [e1, .List [] lp, e3] kv vp) pos :: rest) R := fun A s E Q rm F hQ => by
  refine wpAny_execs_cons (Assign_Tuple (wpAny_Tuple (wpAny_items_cons (he1 A s E _ rm F.sees fun v1 s₁ r1 k₁ => wpAny_items_cons (wpAny_List (wpAny_items_nil ⟨Nat.zero_le _, ?_⟩)) rfl) hs1)) hs hw)
  have F₁ := F.extend k₁.ext
  have hn : s₁.heap.get? s₁.heap.objs.size = none := Heap.get?_none_of_le (Nat.le_refl _)
  have F₂ := F₁.newL
  have hg : (s₁.heap.push { cls := .type "list", data := .seq ([] : List Value).toArray }).get? s₁.heap.objs.size = some { cls := .type "list", data := .seq ([] : List Value).toArray } := Heap.get?_push_size _ rfl
  have h0 : h₀.objs.size ≤ s₁.heap.objs.size := by
    obtain ⟨m, n⟩ := F₁.ns
    exact Nat.le_trans F₁.fresh (Nat.le_of_lt n.lt)
  have hna : s₁.heap.objs.size ∉ av := F₁.sees.gv.new
  have r1' : Rep (s₁.heap.objs.size :: av) (s₁.heap.push { cls := .type "list", data := .seq ([] : List Value).toArray }) v1 d1 := (r1.more hn).mono ((Ext.push (w := w) (q := q) _).seq F₁.sees.gd)
  generalize hae : s₁.heap.objs.size = a at *
  refine wpAny_items_cons (he3 a hna A { s₁ with heap := s₁.heap.push { cls := .type "list", data := .seq ([] : List Value).toArray } } E _ rm F₂.sees fun v3 s₃ r3 k₃ => wpAny_items_nil ⟨by show 3 ≤ 16777216; decide, ?_⟩) hs3
  have F₃ := F₂.extend k₃.ext
  have xp : Ext w q s₃.heap (s₃.heap.push { cls := .type "tuple", data := .seq #[v1, .ref a, v3] }) := .push _
  have F₄ := F₃.extend xp
  refine wpAny_assign_Tuple (s := { s₃ with heap := s₃.heap.push { cls := .type "tuple", data := .seq #[v1, .ref a, v3] } }) rm.hd ⟨_, Heap.get?_push_size _ rfl, rfl, _, rfl⟩ rfl hst fun h' hx' => ?_
  have x5 : Ext w q (s₃.heap.push { cls := .type "tuple", data := .seq #[v1, .ref a, v3] }) h' := .of (extBut_new hx')
  have F₅ := F₄.extend x5
  have sk5 : SeqKeep (a :: av) (s₁.heap.push { cls := .type "list", data := .seq ([] : List Value).toArray }) h' := (((k₃.ext.trans xp).trans x5)).seq F₂.sees.gd
  have r1₅ := r1'.mono sk5
  have r3₅ := r3.mono ((xp.trans x5).seq F₃.sees.gd)
  have hg₅ : h'.get? a = some { cls := .type "list", data := .seq ([] : List Value).toArray } := ((k₃.ext.trans xp).trans x5).obj F₂.sees.gd hg fun vs e => by cases e
  show wpAny _ A (assignInOrder [_, _, _] [v1, .ref a, v3]) _ E { s₃ with heap := h' }
  rw [assignInOrder]
  refine wpAny_bind (wpAny_holding (wpAny_assign_Name (F₅.put (s := { s₃ with heap := h' }) (σ' := σ.set x1 d1) (ω' := none) hx1.1 hx1.2 (fun y e hy => ?_) (fun _ _ _ _ => trivial) fun s₆ sm₆ sq₆ F₆ => ?_)))
  · unfold Sg.set at hy
    split at hy
    · rename_i hyx; cases hy; exact .inl ⟨hyx, r1₅⟩
    · rename_i hyx; exact .inr ⟨hyx, hy⟩
  rw [assignInOrder]
  refine wpAny_bind (wpAny_holding (wpAny_assign_Name (F₆.put (σ' := fun y => if y = x2 then none else (σ.set x1 d1) y) (ω' := some (x2, a, [])) hx2.1 hx2.2 (fun y d e => ?_) (fun h' _ hv sq => ⟨.head _, h0, hv, [], _, sq _ _ (sq₆ _ _ hg₅ (.seq rfl)) (.seq rfl), .nil⟩) fun s₇ sm₇ sq₇ F₇ => ?_)))
  · split at e
    · cases e
    · rename_i hyx; exact .inr ⟨hyx, e⟩
  rw [assignInOrder]
  have ω32 : Om.not (some (x2, a, [])) x3 := fun p e => by cases e; exact fun e => h32 e.symm
  refine wpAny_bind (wpAny_holding (wpAny_assign_Name (F₇.set hx3 ω32 ((r3₅.mono fun b o it m _ e hd => sq₆ b o e (.seq hd)).mono fun b o it m _ e hd => sq₇ b o e (.seq hd)) fun s₈ mv₈ F₈ => ?_)))
  refine wpAny_pure (h a hna A s₈ E Q rm F₈ fun fl s₉ mv hr => hQ fl s₉ ⟨?_, fun b o e p h1 h2 h3 => ?_⟩ hr)
  · exact (((((k₁.same.trans ⟨_, _, rfl⟩).trans k₃.same).trans ⟨_, _, rfl⟩).trans sm₆).trans sm₇).trans (mv₈.1.trans mv.1)
  · have hba : b ≠ a := fun e' => by have := k₁.ext.keep b o (.inr ⟨h1, h2⟩) e; rw [e', hn] at this; cases this
    have e1 := k₁.ext.keep b o (.inr ⟨h1, h2⟩) e
    have e2 := Heap.get?_push_of_some { cls := .type "list", data := .seq ([] : List Value).toArray } e1
    have e3 := ((k₃.ext.trans xp).trans x5).keep b o (.inr ⟨h1, h2⟩) e2
    have e4 := sq₇ b o (sq₆ b o e3 p) p
    have e5 := mv₈.2 b o e4 p h1 h2 (by intro h; cases h)
    exact mv.2 b o e5 p h1 h2 fun hb => (List.mem_cons.mp hb).elim hba h3
end
end Mine

set_option maxRecDepth 100000
set_option maxHeartbeats 1000000
namespace Mine

/-! the law's counts -/
noncomputable def ind (up : Bool) (f k d : Nat) : Bool := (f &&& k == (if up then f else k)) && ((f ^^^ k) &&& (7 - d) == 0)
noncomputable def cnt8 (up : Bool) (fs : List Nat) (d k : Nat) : Nat := fs.countP fun f => ind up f k d
noncomputable def cs (up : Bool) (fs : List Nat) (d : Nat) : List Int := (List.range 8).map fun k => (cnt8 up fs d k : Int)
noncomputable def pt (up : Bool) (fs : List Nat) (d r k : Nat) : Nat := if up then (if k / r % 2 = 1 then cnt8 up fs d (k - r) else 0) else (if k / r % 2 = 0 then cnt8 up fs d (k + r) else 0)
noncomputable def dnx (d r : Nat) : Nat := if d / r % 2 = 1 then d - r else d + r
noncomputable def stp (done : List Int) (r : Int) : List Int := done.filter (fun k => decide (k ≠ r)) ++ (if r ∈ done then [] else [r])
noncomputable def orders : List (List Int) := [[1, 2, 4], [1, 4, 2], [2, 1, 4], [2, 4, 1], [4, 1, 2], [4, 2, 1]]
noncomputable def dn (ord : List Int) (i : Nat) : List Int := ((ord ++ ord).take i).foldl stp []

theorem ord_step : ∀ ord ∈ orders, ∀ i < 6, ∃ r ∈ ([1, 2, 4] : List Nat), (ord ++ ord)[i]? = some (r : Int) ∧ (dn ord i).sum.toNat < 8 ∧ 0 ≤ (dn ord i).sum ∧ dn ord (i + 1) = stp (dn ord i) r ∧ (dn ord (i + 1)).sum.toNat = dnx (dn ord i).sum.toNat r ∧ decide ((r : Int) ∈ dn ord i) = decide ((dn ord i).sum.toNat / r % 2 = 1) ∧ (dn ord i).length ≤ 3 := by decide +kernel
theorem ord_end : ∀ ord ∈ orders, dn ord 6 = [] ∧ (ord ++ ord).length = 6 ∧ ord.length = 3 := by decide +kernel
theorem ord_end8 : ∀ ord ∈ orders, ∀ i < 6, (dn ord (i + 1)).sum.toNat < 8 ∧ 0 ≤ (dn ord (i + 1)).sum := by decide +kernel

theorem ind_step : ∀ up : Bool, ∀ r ∈ [1, 2, 4], ∀ d < 8, ∀ f < 8, ∀ k < 8,
    (if d / r % 2 = 1 then (ind up f k d).toNat = (ind up f k (d - r)).toNat + (if up then (if k / r % 2 = 1 then (ind up f (k - r) d).toNat else 0) else (if k / r % 2 = 0 then (ind up f (k + r) d).toNat else 0))
      else (ind up f k (d + r)).toNat = (ind up f k d).toNat + (if up then (if k / r % 2 = 1 then (ind up f (k - r) d).toNat else 0) else (if k / r % 2 = 0 then (ind up f (k + r) d).toNat else 0))) := by decide +kernel

theorem cnt8_cons (up : Bool) (f : Nat) (fs : List Nat) (d k : Nat) : cnt8 up (f :: fs) d k = cnt8 up fs d k + (ind up f k d).toNat := by
  unfold cnt8
  rw [List.countP_cons]
  cases ind up f k d <;> rfl
noncomputable def pti (up : Bool) (f d r k : Nat) : Nat := if up then (if k / r % 2 = 1 then (ind up f (k - r) d).toNat else 0) else (if k / r % 2 = 0 then (ind up f (k + r) d).toNat else 0)
theorem pt_cons (up : Bool) (f : Nat) (fs : List Nat) (d r k : Nat) : pt up (f :: fs) d r k = pt up fs d r k + pti up f d r k := by
  unfold pt pti
  rw [cnt8_cons, cnt8_cons]
  cases up
  · by_cases c : k / r % 2 = 0 <;> simp only [c, if_true, if_false, Bool.false_eq_true]
  · by_cases c : k / r % 2 = 1 <;> simp only [c, if_true, if_false]
theorem cnt_step (up : Bool) {r d k : Nat} (hr : r ∈ [1, 2, 4]) (hd : d < 8) (hk : k < 8) {fs : List Nat} (h : ∀ f ∈ fs, f < 8) :
    (if d / r % 2 = 1 then cnt8 up fs d k = cnt8 up fs (d - r) k + pt up fs d r k else cnt8 up fs (d + r) k = cnt8 up fs d k + pt up fs d r k) := by
  induction fs with
  | nil =>
    have e : ∀ d k, cnt8 up [] d k = 0 := fun _ _ => rfl
    simp only [pt, e]
    cases up <;> simp
  | cons f fs ih =>
    have ih := ih fun x hx => h x (.tail _ hx)
    have h1 := ind_step up r hr d hd f (h f (.head _)) k hk
    have h2 : (if up then (if k / r % 2 = 1 then (ind up f (k - r) d).toNat else 0) else (if k / r % 2 = 0 then (ind up f (k + r) d).toNat else 0)) = pti up f d r k := rfl
    rw [h2] at h1
    rw [pt_cons, cnt8_cons, cnt8_cons, cnt8_cons]
    by_cases c1 : d / r % 2 = 1
    · rw [if_pos c1] at *; omega
    · rw [if_neg c1] at *; omega

theorem cs_len (up : Bool) (fs : List Nat) (d : Nat) : (cs up fs d).length = 8 := by simp [cs]
theorem cnt_le8 (up : Bool) (fs : List Nat) (d k : Nat) : cnt8 up fs d k ≤ fs.length := List.countP_le_length
theorem cs_bd (up : Bool) {fs : List Nat} (d : Nat) {n : Nat} (hl : fs.length ≤ 8) (hn : 4 ≤ n) : ∀ x ∈ cs up fs d, 0 ≤ x ∧ x < 2 ^ n := fun x hx => by
  obtain ⟨k, _, rfl⟩ := List.mem_map.mp hx
  have h1 := cnt_le8 up fs d k
  have h2 : (2 : Int) ^ 4 ≤ 2 ^ n := by
    have : (2 : Nat) ^ 4 ≤ 2 ^ n := Nat.pow_le_pow_right (by decide) hn
    exact_mod_cast this
  exact ⟨Int.natCast_nonneg _, Int.lt_of_le_of_lt (Int.ofNat_le.mpr (Nat.le_trans h1 hl)) (Int.lt_of_lt_of_le (by decide) h2)⟩

theorem dval_map_add (n : Nat) (g h : Nat → Int) : ∀ l : List Nat, dval n (l.map g) + dval n (l.map h) = dval n (l.map fun k => g k + h k)
  | [] => rfl
  | a :: l => by
    simp only [List.map_cons, dval, ← dval_map_add n g h l, Int.mul_add]; omega

noncomputable def ptL (up : Bool) (fs : List Nat) (d r : Nat) : List Int := (List.range 8).map fun k => (pt up fs d r k : Int)
/-- one step of the sum over subsets, or back -/
theorem num_step (up : Bool) {r d n : Nat} {fs : List Nat} (hr : r ∈ [1, 2, 4]) (hd : d < 8) (hf : ∀ f ∈ fs, f < 8) :
    (if d / r % 2 = 1 then dval n (cs up fs d) - dval n (ptL up fs d r) else dval n (cs up fs d) + dval n (ptL up fs d r)) = dval n (cs up fs (dnx d r)) := by
  unfold dnx
  have hk : ∀ k ∈ List.range 8, k < 8 := fun k hk => List.mem_range.mp hk
  split
  · rename_i c
    have e : dval n (cs up fs d) = dval n (cs up fs (d - r)) + dval n (ptL up fs d r) := by
      unfold cs ptL
      rw [dval_map_add]
      congr 1
      refine List.map_congr_left fun k hk' => ?_
      have := cnt_step up hr hd (hk k hk') hf
      rw [if_pos c] at this
      exact congrArg (Nat.cast (R := Int)) this
    exact Int.sub_eq_iff_eq_add.mpr e
  · rename_i c
    unfold cs ptL
    rw [dval_map_add]
    congr 1
    refine List.map_congr_left fun k hk' => ?_
    have := cnt_step up hr hd (hk k hk') hf
    rw [if_neg c] at this
    exact (congrArg (Nat.cast (R := Int)) this).symm

/-! masks -/
noncomputable def told (n r : Nat) : List Int := (List.range 8).map fun (k : Nat) => (2 ^ n - 1) * (1 - (k : Int) / (r : Int) % 2)
theorem told1 (n : Nat) : told n 1 = [2 ^ n - 1, 0, 2 ^ n - 1, 0, 2 ^ n - 1, 0, 2 ^ n - 1, 0] := by
  show [(2 ^ n - 1) * (1 : Int), (2 ^ n - 1) * 0, (2 ^ n - 1) * 1, (2 ^ n - 1) * 0, (2 ^ n - 1) * 1, (2 ^ n - 1) * 0, (2 ^ n - 1) * 1, (2 ^ n - 1) * 0] = _
  simp only [Int.mul_one, Int.mul_zero]
theorem told2 (n : Nat) : told n 2 = [2 ^ n - 1, 2 ^ n - 1, 0, 0, 2 ^ n - 1, 2 ^ n - 1, 0, 0] := by
  show [(2 ^ n - 1) * (1 : Int), (2 ^ n - 1) * 1, (2 ^ n - 1) * 0, (2 ^ n - 1) * 0, (2 ^ n - 1) * 1, (2 ^ n - 1) * 1, (2 ^ n - 1) * 0, (2 ^ n - 1) * 0] = _
  simp only [Int.mul_one, Int.mul_zero]
theorem told4 (n : Nat) : told n 4 = [2 ^ n - 1, 2 ^ n - 1, 2 ^ n - 1, 2 ^ n - 1, 0, 0, 0, 0] := by
  show [(2 ^ n - 1) * (1 : Int), (2 ^ n - 1) * 1, (2 ^ n - 1) * 1, (2 ^ n - 1) * 1, (2 ^ n - 1) * 0, (2 ^ n - 1) * 0, (2 ^ n - 1) * 0, (2 ^ n - 1) * 0] = _
  simp only [Int.mul_one, Int.mul_zero]
theorem mem124 {r : Nat} (hr : r ∈ [1, 2, 4]) : r = 1 ∨ r = 2 ∨ r = 4 := by simpa using hr
theorem mask_mul {n r : Nat} (hr : r ∈ [1, 2, 4]) : (2 : Int) ^ (8 * n) - 1 = (2 ^ (n * r) + 1) * dval n (told n r) := by
  have e8 : (2 : Int) ^ (8 * n) = (2 ^ n) ^ 8 := by rw [Nat.mul_comm, Int.pow_mul]
  have er : (2 : Int) ^ (n * r) = (2 ^ n) ^ r := Int.pow_mul ..
  rw [e8, er]
  rcases mem124 hr with rfl | rfl | rfl
  · rw [told1]; simp only [dval]; generalize (2 : Int) ^ n = B; grind
  · rw [told2]; simp only [dval]; generalize (2 : Int) ^ n = B; grind
  · rw [told4]; simp only [dval]; generalize (2 : Int) ^ n = B; grind
end Mine

set_option maxRecDepth 100000
set_option maxHeartbeats 1000000
namespace Mine

theorem ge_one_pow (n : Nat) : (1 : Int) ≤ 2 ^ n := pow_pos2 n
theorem len_ones {n l : Nat} (h : (16 : Int) ≤ 2 ^ n) (hl : l ≤ 8) : (l : Int) < 2 ^ n - 1 := Int.lt_sub_right_of_add_lt (Int.lt_of_le_of_lt (Int.add_le_add_right (Int.ofNat_le.mpr hl) 1) (Int.lt_of_lt_of_le (by decide) h))
theorem told_sel {n r : Nat} (hr : r ∈ [1, 2, 4]) : told n r = (List.range 8).map fun (k : Nat) => if (k / r % 2 == 0) = true then (2 : Int) ^ n - 1 else 0 := by
  rcases mem124 hr with rfl | rfl | rfl
  · rw [told1]; rfl
  · rw [told2]; rfl
  · rw [told4]; rfl
theorem told_bd {n r : Nat} (hr : r ∈ [1, 2, 4]) : ∀ x ∈ told n r, 0 ≤ x ∧ x < 2 ^ n := by
  have h := ge_one_pow n
  rw [told_sel hr]
  intro x hx
  obtain ⟨k, _, rfl⟩ := List.mem_map.mp hx
  split
  · exact ⟨Int.sub_nonneg.mpr h, Int.sub_lt_self _ (by decide)⟩
  · exact ⟨Int.le_refl 0, h⟩
theorem told_len (n r : Nat) : (told n r).length = 8 := by simp [told]
noncomputable def mk (n r : Nat) : Nat := (dval n (told n r)).toNat
theorem mk_cast {n r : Nat} (hr : r ∈ [1, 2, 4]) : (mk n r : Int) = dval n (told n r) := Int.toNat_of_nonneg (dval_bd (told_bd hr)).1
theorem mk_lt {n r : Nat} (hr : r ∈ [1, 2, 4]) : mk n r < 2 ^ (n * 8) := by
  have h := (dval_bd (told_bd (n := n) hr)).2
  rw [← mk_cast hr, told_len] at h
  exact_mod_cast h
theorem mask_div {n r : Nat} (hr : r ∈ [1, 2, 4]) : ((2 : Int) ^ (8 * n) - 1) / (2 ^ (n * r) + 1) = mk n r ∧ ((2 : Int) ^ (8 * n) - 1) % (2 ^ (n * r) + 1) = 0 := by
  rw [mask_mul hr, ← mk_cast hr]
  have : (2 : Int) ^ (n * r) + 1 ≠ 0 := Int.ne_of_gt (Int.lt_trans (pow_pos2 _) (Int.lt_succ _))
  exact ⟨Int.mul_ediv_cancel_left _ this, Int.mul_emod_right ..⟩

theorem digs_dval (n : Nat) : ∀ xs : List Int, (∀ d ∈ xs, 0 ≤ d ∧ d < 2 ^ n) → digs n xs.length (dval n xs) = xs
  | [], _ => rfl
  | x :: xs, h => by
    obtain ⟨h1, h2⟩ := h x (.head _)
    rw [List.length_cons, digs, dval, Int.add_mul_emod_self_left, Int.emod_eq_of_lt h1 h2, Int.add_mul_ediv_left _ _ (Int.ne_of_gt (pow_pos2 n)), Int.ediv_eq_zero_of_lt h1 h2, Int.zero_add, digs_dval n xs fun d hd => h d (.tail _ hd)]

/-- number and its digits added up -/
theorem dval_sum (n : Nat) : ∀ xs : List Int, ((List.range xs.length).map fun (k : Nat) => xs.getD k 0 * 2 ^ (n * k)).sum = dval n xs
  | [] => rfl
  | x :: xs => by
    rw [List.length_cons, List.range_succ_eq_map, List.map_cons, List.map_map, List.sum_cons, dval, ← dval_sum n xs]
    have e : ∀ l : List Nat, (l.map ((fun (k : Nat) => (x :: xs).getD k 0 * 2 ^ (n * k)) ∘ Nat.succ)).sum = 2 ^ n * (l.map fun (k : Nat) => xs.getD k 0 * 2 ^ (n * k)).sum := by
      intro l
      induction l with
      | nil => rfl
      | cons a l ih =>
        rw [List.map_cons, List.sum_cons, ih, List.map_cons, List.sum_cons, Int.mul_add]
        congr 1
        show (x :: xs).getD (a + 1) 0 * 2 ^ (n * (a + 1)) = _
        rw [List.getD_cons_succ, Nat.mul_succ, Int.pow_add, ← Int.mul_assoc, Int.mul_comm]
    rw [e]
    simp
theorem dval_mod (n : Nat) : ∀ xs : List Int, ∃ q, dval n xs = xs.sum + (2 ^ n - 1) * q
  | [] => ⟨0, by simp [dval]⟩
  | x :: xs => by
    obtain ⟨q, h⟩ := dval_mod n xs
    exact ⟨dval n xs + q, by rw [List.sum_cons, dval]; generalize (2 : Int) ^ n = B at *; generalize dval n xs = D at *; grind⟩

theorem cs_sum (up : Bool) : ∀ {fs : List Nat}, (∀ f ∈ fs, f < 8) → (cs up fs 0).sum = fs.length
  | [], _ => by cases up <;> rfl
  | f :: fs, h => by
    have ih := cs_sum up (fs := fs) fun x hx => h x (.tail _ hx)
    have e : ∀ l : List Nat, (l.map fun k => (cnt8 up (f :: fs) 0 k : Int)).sum = (l.map fun k => (cnt8 up fs 0 k : Int)).sum + (l.map fun k => ((ind up f k 0).toNat : Int)).sum := by
      intro l
      induction l with
      | nil => rfl
      | cons a l ih => rw [List.map_cons, List.sum_cons, List.map_cons, List.sum_cons, List.map_cons, List.sum_cons, ih, cnt8_cons]; push_cast; omega
    have one : ∀ up : Bool, ∀ f < 8, ((List.range 8).map fun k => ((ind up f k 0).toNat : Int)).sum = 1 := by decide +kernel
    show ((List.range 8).map fun k => (cnt8 up (f :: fs) 0 k : Int)).sum = _
    rw [e, one up f (h f (.head _)), List.length_cons]
    have ih' : ((List.range 8).map fun k => (cnt8 up fs 0 k : Int)).sum = fs.length := ih
    rw [ih']; push_cast; rfl
theorem cs_zero (up : Bool) {fs : List Nat} (h : ∀ f ∈ fs, f < 8) : cs up fs 0 = (List.range 8).map fun (k : Nat) => ((fs.map fun (f : Nat) => (f : Int)).count (k : Int) : Int) := by
  unfold cs
  refine List.map_congr_left fun k hk => ?_
  have hk := List.mem_range.mp hk
  have one : ∀ up : Bool, ∀ f < 8, ∀ k < 8, ind up f k 0 = (f == k) := by decide +kernel
  have : ∀ fs : List Nat, (∀ f ∈ fs, f < 8) → cnt8 up fs 0 k = (fs.map fun (f : Nat) => (f : Int)).count (k : Int) := by
    intro fs
    induction fs with
    | nil => intro _; rfl
    | cons f fs ih =>
      intro h
      rw [cnt8_cons, ih fun x hx => h x (.tail _ hx), List.map_cons, List.count_cons, one up f (h f (.head _)) k hk]
      by_cases e : f = k
      · subst e; simp
      · have : ¬ ((f : Int) = (k : Int)) := fun h => e (by exact_mod_cast h)
        simp [e, this]
  rw [this fs h]

theorem num_mod (up : Bool) {fs : List Nat} {n : Nat} (h : ∀ f ∈ fs, f < 8) (hl : fs.length ≤ 8) (hn : 4 ≤ n) : dval n (cs up fs 0) % (2 ^ n - 1) = fs.length := by
  obtain ⟨q, e⟩ := dval_mod n (cs up fs 0)
  rw [e, cs_sum up h, Int.add_mul_emod_self_left]
  have h2 : (2 : Int) ^ 4 ≤ 2 ^ n := by
    have : (2 : Nat) ^ 4 ≤ 2 ^ n := Nat.pow_le_pow_right (by decide) hn
    exact_mod_cast this
  have h3 : (2 : Int) ^ 4 = 16 := rfl
  exact Int.emod_eq_of_lt (Int.natCast_nonneg _) (len_ones h2 hl)
theorem num_pos (up : Bool) {fs : List Nat} {n : Nat} (h : ∀ f ∈ fs, f < 8) (hl : fs.length ≤ 8) (hn : 4 ≤ n) (h0 : 1 ≤ fs.length) : 1 ≤ dval n (cs up fs 0) := by
  have h1 := (dval_bd (cs_bd up 0 hl hn)).1
  by_cases h2 : 0 < dval n (cs up fs 0)
  · exact h2
  · have e : dval n (cs up fs 0) = 0 := Int.le_antisymm (Int.not_lt.mp h2) h1
    have := num_mod up h hl hn
    rw [e, Int.zero_emod] at this; exact absurd (Int.ofNat_inj.mp (this : ((0 : Nat) : Int) = _)) (Nat.ne_of_lt h0)
theorem neg_mod {N b l : Int} (h1 : N % b = l) (h2 : 0 < l) (h3 : l < b) : (-N) % b = b - l := by
  obtain ⟨q, rfl⟩ : ∃ q, N = l + b * q := ⟨N / b, by rw [← h1]; exact (Int.emod_add_mul_ediv N b).symm⟩
  have : -(l + b * q) = (b - l) + b * (-q - 1) := by grind
  rw [this, Int.add_mul_emod_self_left]
  exact Int.emod_eq_of_lt (Int.sub_nonneg.mpr (Int.le_of_lt h3)) (Int.sub_lt_self b h2)
end Mine

set_option maxRecDepth 100000
set_option maxHeartbeats 1000000
namespace Mine

theorem land_split {n x y X Y : Nat} (hx : x < 2 ^ n) (hy : y < 2 ^ n) : (x + 2 ^ n * X) &&& (y + 2 ^ n * Y) = (x &&& y) + 2 ^ n * (X &&& Y) := by
  have hp : 0 < 2 ^ n := Nat.pow_pos (by decide)
  have d1 : ∀ {a A : Nat}, a < 2 ^ n → (a + 2 ^ n * A) % 2 ^ n = a ∧ (a + 2 ^ n * A) / 2 ^ n = A := fun {a A} h => ⟨by rw [Nat.add_mul_mod_self_left, Nat.mod_eq_of_lt h], by rw [Nat.add_mul_div_left _ _ hp, Nat.div_eq_of_lt h, Nat.zero_add]⟩
  have e := Nat.div_add_mod ((x + 2 ^ n * X) &&& (y + 2 ^ n * Y)) (2 ^ n)
  rw [Nat.and_div_two_pow, Nat.and_mod_two_pow, (d1 hx).1, (d1 hx).2, (d1 hy).1, (d1 hy).2] at e
  exact e.symm.trans (Nat.add_comm _ _)
noncomputable def nv (n : Nat) : List Nat → Nat
  | [] => 0
  | d :: r => d + 2 ^ n * nv n r
theorem dval_nv (n : Nat) (g : Nat → Nat) : ∀ l : List Nat, dval n (l.map fun k => (g k : Int)) = (nv n (l.map g) : Nat)
  | [] => rfl
  | a :: l => by rw [List.map_cons, List.map_cons, dval, nv, dval_nv n g l]; push_cast; rfl
theorem nv_land (n : Nat) (g : Nat → Nat) (sel : Nat → Bool) (hg : ∀ k, g k < 2 ^ n) : ∀ l : List Nat, nv n (l.map g) &&& nv n (l.map fun k => if sel k = true then 2 ^ n - 1 else 0) = nv n (l.map fun k => if sel k = true then g k else 0)
  | [] => by simp [nv]
  | a :: l => by
    have hp : 0 < 2 ^ n := Nat.pow_pos (by decide)
    rw [List.map_cons, List.map_cons, List.map_cons, nv, nv, nv, land_split (hg a) (by split; exact Nat.sub_lt hp (by decide); exact hp), nv_land n g sel hg l]
    congr 1
    split
    · exact Nat.and_two_pow_sub_one_of_lt_two_pow (hg a)
    · exact Nat.and_zero _
theorem and_sel (n : Nat) (g : Nat → Nat) (sel : Nat → Bool) (hg : ∀ k, g k < 2 ^ n) (l : List Nat) :
    Builtin.bitAnd (dval n (l.map fun k => (g k : Int))) (dval n (l.map fun k => if sel k = true then (2 : Int) ^ n - 1 else 0)) = dval n (l.map fun k => if sel k = true then (g k : Int) else 0) := by
  have e1 : (fun k : Nat => if sel k = true then (2 : Int) ^ n - 1 else 0) = fun k => (((if sel k = true then 2 ^ n - 1 else 0 : Nat)) : Int) := by
    funext k
    have : 1 ≤ 2 ^ n := Nat.pow_pos (by decide)
    split
    · push_cast [this]; rfl
    · rfl
  have e2 : (fun k : Nat => if sel k = true then (g k : Int) else 0) = fun k => (((if sel k = true then g k else 0 : Nat)) : Int) := by
    funext k
    split <;> rfl
  rw [e1, e2, dval_nv, dval_nv n (fun k => if sel k = true then 2 ^ n - 1 else 0), dval_nv n (fun k => if sel k = true then g k else 0), and_nat, nv_land n g sel hg]

theorem cnt_lt (up : Bool) {fs : List Nat} {n : Nat} (hl : fs.length ≤ 8) (hn : 4 ≤ n) (d k : Nat) : cnt8 up fs d k < 2 ^ n := by
  have h1 := cnt_le8 up fs d k
  have h2 : (2 : Nat) ^ 4 ≤ 2 ^ n := Nat.pow_le_pow_right (by decide) hn
  exact Nat.lt_of_le_of_lt (Nat.le_trans h1 hl) (Nat.lt_of_lt_of_le (by decide) h2)

/-- moved up -/
theorem part_up {r d n : Nat} {fs : List Nat} (hr : r ∈ [1, 2, 4]) (hl : fs.length ≤ 8) (hn : 4 ≤ n) : Builtin.bitAnd (dval n (cs true fs d)) (mk n r) * 2 ^ (n * r) = dval n (ptL true fs d r) := by
  rw [mk_cast hr, told_sel hr]
  unfold cs
  rw [and_sel n (cnt8 true fs d) (fun k => k / r % 2 == 0) (cnt_lt true hl hn d), Int.pow_mul]
  rcases mem124 hr with rfl | rfl | rfl
  · show dval n [(cnt8 true fs d 0 : Int), 0, (cnt8 true fs d 2 : Int), 0, (cnt8 true fs d 4 : Int), 0, (cnt8 true fs d 6 : Int), 0] * _ = dval n [0, (cnt8 true fs d 0 : Int), 0, (cnt8 true fs d 2 : Int), 0, (cnt8 true fs d 4 : Int), 0, (cnt8 true fs d 6 : Int)]
    simp only [dval]; generalize (2 : Int) ^ n = B; grind
  · show dval n [(cnt8 true fs d 0 : Int), (cnt8 true fs d 1 : Int), 0, 0, (cnt8 true fs d 4 : Int), (cnt8 true fs d 5 : Int), 0, 0] * _ = dval n [0, 0, (cnt8 true fs d 0 : Int), (cnt8 true fs d 1 : Int), 0, 0, (cnt8 true fs d 4 : Int), (cnt8 true fs d 5 : Int)]
    simp only [dval]; generalize (2 : Int) ^ n = B; grind
  · show dval n [(cnt8 true fs d 0 : Int), (cnt8 true fs d 1 : Int), (cnt8 true fs d 2 : Int), (cnt8 true fs d 3 : Int), 0, 0, 0, 0] * _ = dval n [0, 0, 0, 0, (cnt8 true fs d 0 : Int), (cnt8 true fs d 1 : Int), (cnt8 true fs d 2 : Int), (cnt8 true fs d 3 : Int)]
    simp only [dval]; generalize (2 : Int) ^ n = B; grind

theorem dval_drop (n r : Nat) {xs : List Int} (h : ∀ d ∈ xs, 0 ≤ d ∧ d < 2 ^ n) (hr : r ≤ xs.length) : dval n xs / 2 ^ (n * r) = dval n (xs.drop r) := by
  have e := dval_append n (xs.take r) (xs.drop r)
  rw [List.take_append_drop, List.length_take, Nat.min_eq_left hr] at e
  have b := dval_bd (n := n) (xs := xs.take r) fun d hd => h d (List.mem_of_mem_take hd)
  rw [List.length_take, Nat.min_eq_left hr] at b
  rw [e, Int.add_mul_ediv_left _ _ (Int.ne_of_gt (pow_pos2 _)), Int.ediv_eq_zero_of_lt b.1 b.2, Int.zero_add]
theorem part_down {r d n : Nat} {fs : List Nat} (hr : r ∈ [1, 2, 4]) (hl : fs.length ≤ 8) (hn : 4 ≤ n) : Builtin.bitAnd (dval n (cs false fs d) / 2 ^ (n * r)) (mk n r) = dval n (ptL false fs d r) := by
  rw [dval_drop n r (cs_bd false d hl hn) (by rw [cs_len]; rcases mem124 hr with rfl | rfl | rfl <;> decide), mk_cast hr, told_sel hr]
  have e : dval n ((cs false fs d).drop r) = dval n ((List.range 8).map fun (k : Nat) => (((if k + r < 8 then cnt8 false fs d (k + r) else 0 : Nat)) : Int)) := by
    have z : ∀ (xs : List Int) (j : Nat), dval n (xs ++ List.replicate j 0) = dval n xs := fun xs j => by
      have : ∀ j, dval n (List.replicate j 0) = 0 := fun j => by
        induction j with
        | zero => rfl
        | succ j ih => rw [List.replicate_succ, dval, ih]; simp
      rw [dval_append, this]; simp
    rw [← z _ r]
    congr 1
    rcases mem124 hr with rfl | rfl | rfl <;> rfl
  rw [e, and_sel n (fun k => if k + r < 8 then cnt8 false fs d (k + r) else 0) (fun k => k / r % 2 == 0) (fun k => by
    show (if k + r < 8 then cnt8 false fs d (k + r) else 0) < 2 ^ n
    split
    · exact cnt_lt false hl hn d _
    · exact Nat.pow_pos (by decide))]
  congr 1
  rcases mem124 hr with rfl | rfl | rfl <;> rfl

theorem within_ind {up : Bool} {f k : Nat} {done : List Int} (hf : f < 8) (hk : k < 8) (h0 : 0 ≤ done.sum) (h8 : done.sum.toNat < 8) : within (f : Int) (k : Int) done up = ind up f k done.sum.toNat := by
  have key : ∀ up : Bool, ∀ f < 8, ∀ k < 8, ∀ d < 8, ((Builtin.bitAnd (f : Nat) (k : Nat) == (if up = true then ((f : Nat) : Int) else ((k : Nat) : Int))) && (Builtin.bitAnd (Builtin.bitXor (f : Nat) (k : Nat)) (7 - ((d : Nat) : Int)) == 0)) = ind up f k d := by decide +kernel
  have e : done.sum = (done.sum.toNat : Int) := (Int.toNat_of_nonneg h0).symm
  unfold within
  rw [e]
  exact key up f hf k hk _ h8

/-! figures and rows -/
theorem and_4095 (m : Int) : Builtin.bitAnd m 4095 = m % 4096 := by
  by_cases hm : 0 ≤ m
  · obtain ⟨x, rfl⟩ := Int.eq_ofNat_of_zero_le hm
    have : Builtin.bitAnd (x : Int) ((4095 : Nat) : Int) = ((x &&& 4095 : Nat) : Int) := and_nat x 4095
    have e : x &&& 4095 = x % 4096 := Nat.and_two_pow_sub_one_eq_mod x 12
    rw [e] at this
    exact this
  · rw [bitAnd_np hm (by decide)]
    have e : (4095 : Int).toNat &&& (Builtin.bitNot m).toNat = (Builtin.bitNot m).toNat % 4096 := by
      rw [Nat.and_comm]; exact Nat.and_two_pow_sub_one_eq_mod _ 12
    rw [e]
    have hn : ((Builtin.bitNot m).toNat : Int) = -m - 1 := by
      rw [Int.toNat_of_nonneg] <;> (show _ ; unfold Builtin.bitNot; omega)
    push_cast
    rw [hn]
    omega
theorem sgn_two (a b : Nat) (x : Int) : sgn [a, b] (x % 2) = if x % 2 = 1 then b else a := by
  rcases Int.emod_two_eq x with h | h <;> rw [h] <;> rfl
theorem mod_div8 (m c d : Int) (hc : c ≠ 0) (e : (4096 : Int) = c * (8 * d)) : m % 4096 / c % 8 = m / c % 8 := by
  conv => rhs; rw [← Int.emod_add_mul_ediv m 4096]
  conv => rhs; lhs; lhs; rhs; rw [e, Int.mul_assoc]
  rw [Int.add_mul_ediv_left _ _ hc, Int.mul_assoc, Int.add_mul_emod_self_left]
theorem shown_trio (g s : Int) (ends : List Nat) (he : ends = xSs ∨ ends = xTt) : (shownL (sgn [45, 114] (g / 4 % 2)) (sgn [45, 119] (g / 2 % 2)) (sgn ends (g % 2 + s % 2 * 2))).sum = g % 8 := by
  rw [sgn_two, sgn_two]
  have e3 : inS [120, 115, 116] (sgn ends (g % 2 + s % 2 * 2)) = decide (g % 2 = 1) := by
    rcases he with rfl | rfl <;> rcases Int.emod_two_eq g with h | h <;> rcases Int.emod_two_eq s with h' | h' <;> rw [h, h'] <;> decide +kernel
  have e1 : ∀ c : Bool, inS [114] (if c = true then 114 else 45) = c := by decide +kernel
  have e2 : ∀ c : Bool, inS [119] (if c = true then 119 else 45) = c := by decide +kernel
  have e1' := e1 (decide (g / 4 % 2 = 1))
  have e2' := e2 (decide (g / 2 % 2 = 1))
  simp only [decide_eq_true_eq] at e1' e2'
  unfold shownL
  rw [e1', e2', e3]
  simp only [decide_eq_true_eq]
  rw [← three_bits g]
  rcases Int.emod_two_eq (g / 4) with h1 | h1 <;> rcases Int.emod_two_eq (g / 2) with h2 | h2 <;> rcases Int.emod_two_eq g with h3 | h3 <;> rw [h1, h2, h3] <;> rfl

noncomputable def spotOf (i : Int) : Int := if i = 0 then 7 else if i = 1 then 4 else 1
noncomputable def wtOf (i : Int) : Int := if i = 0 then 1 else if i = 1 then 8 else 64
theorem fig_shown {i : Int} (hi : i = 0 ∨ i = 1 ∨ i = 2) (m : Int) : Builtin.bitAnd m 4095 / wtOf i % 8 = m / wtOf i % 8 ∧ shownV (rowOf m) (spotOf i).toNat = m / wtOf i % 8 := by
  rw [and_4095]
  rcases hi with rfl | rfl | rfl
  · exact ⟨mod_div8 m 1 512 (by decide) rfl, (shown_trio m (m / 512) xTt (.inr rfl)).trans (congrArg (· % 8) (Int.ediv_one m).symm)⟩
  · exact ⟨mod_div8 m 8 64 (by decide) rfl, shown_trio (m / 8) (m / 1024) xSs (.inl rfl)⟩
  · exact ⟨mod_div8 m 64 8 (by decide) rfl, shown_trio (m / 64) (m / 2048) xSs (.inl rfl)⟩
end Mine

set_option maxRecDepth 100000
set_option maxHeartbeats 1000000
namespace Mine

noncomputable def lawFd : FuncData := (fun (y : FuncData) (_ : ∀ P : Params, ((hd.heap_39 P).lookup 141).map (·.data) = some (.func y)) => y) _ fun P => rfl
noncomputable def lawBody : List Stmt := (fun (y : List Stmt) (_ : lawFd.body = .stmts y) => y) _ rfl
noncomputable abbrev lawEnv (h₀ : Heap) : Env := callEnvC lawFd h₀.objs.size 141

noncomputable def lI (g : Int → Int) : D → D
  | .int i => .int (g i)
  | d => d
noncomputable def lP (p : Int → Bool) : D → Bool
  | .int i => p i
  | _ => true
theorem comp_I (p : Int → Bool) (g : Int → Int) : ∀ xs : List Int, ((xs.map D.int).filter (lP p)).map (lI g) = ((xs.filter p).map g).map .int
  | [] => rfl
  | x :: xs => by
    have ih := comp_I p g xs
    have e : lP p (.int x) = p x := rfl
    rw [List.map_cons, List.filter_cons, List.filter_cons, e]
    split
    · rw [List.map_cons, ih]; rfl
    · exact ih
noncomputable def oneI (p : Int → Bool) : D → Bool := lP p
theorem mem_ints {xs : List Int} {d : D} (h : d ∈ xs.map D.int) : ∃ x ∈ xs, d = .int x := by
  obtain ⟨x, hx, rfl⟩ := List.mem_map.mp h
  exact ⟨x, hx, rfl⟩

theorem hk1_of {l : List (Str × NameKind)} {own : Option Str} {caps : List Str} (h : l.all (fun r => !(r.2 == .cell) || (own == some r.1) || caps.contains r.1) = true) : ∀ r ∈ l, r.2 = .cell → own = some r.1 ∨ r.1 ∈ caps := fun r hr e => by
  have := List.all_eq_true.mp h r hr
  rw [e] at this
  simpa using this
theorem hk2_of {l : List (Str × NameKind)} {caps : List Str} (h : l.all (fun r => !(r.2 == .free) || caps.contains r.1) = true) : ∀ r ∈ l, r.2 = .free → r.1 ∈ caps := fun r hr e => by
  have := List.all_eq_true.mp h r hr
  rw [e] at this
  simpa using this
theorem htf_of {σ : Sg} {caps : List Str} {x : Str} (hx : x ∉ caps) : ∀ (d : D) y, y ∈ caps → (Sg.set (σr σ caps) x d) y = σ y := fun d y hy => by
  unfold Sg.set σr
  have h : ¬ y = x := fun e => hx (e ▸ hy)
  rw [if_neg h, if_pos hy]

section
variable {w : Wd} {av : List Addr} {k : Nat} {q : Bool} {env : Env} {σ : Sg}
/-- a comprehension by one name -/
theorem Ev.compN {elt iter : Expr} {x : Str} {px pos : Pos} {ifs : List Expr} {scope : Scope} {cl : List (Str × Addr)} (caps : List Str) {ds : List D} (p : D → Bool) (f : D → D) (hit : It w av k q env σ iter ds)
    (hclos : closureFor scope env = pure cl) (hcap : ∀ y ∈ caps, Cap' env scope none cl y) (hσ : ∀ y ∈ caps, ∃ d, σ y = some d)
    (ht : ∀ av' C d, d ∈ ds → Tsts w av' k (cEnv scope none cl C env) (Sg.set (σr σ caps) x d) ifs (p d)) (he : ∀ av' C d, d ∈ ds → p d = true → Ev w av' k true (cEnv scope none cl C env) (Sg.set (σr σ caps) x d) elt (f d)) (hz : ds.length ≤ sizeLine)
    (hx : autoParam (∀ C, (cEnv scope none cl C env).kindOf x = some .local) PyProof.Rows.Assign_ListComp_rowsP._auto_1) (hxc : autoParam (x ∉ caps) PyProof.Rows.glB_def._auto_7) (hxd : autoParam ((x == ("__debug__" : Str)) = false) PyProof.Rows.glB_def._auto_7)
    (hcs : autoParam (∀ N, cellsFrom N scope.names cl = cl) PyProof.Rows.Assign_ListComp_rowsP._auto_1) (hph : autoParam (∀ h, pushCells h scope.names = h) PyProof.Rows.Assign_ListComp_rowsP._auto_1)
    (hk1 : autoParam ((relabel scope env).names.all (fun r => !(r.2 == .cell) || ((none : Option Str) == some r.1) || caps.contains r.1) = true) PyProof.Rows.call_M_of_MD._auto_3) (hk2 : autoParam ((relabel scope env).names.all (fun r => !(r.2 == .free) || caps.contains r.1) = true) PyProof.Rows.call_M_of_MD._auto_3)
    (hkind : autoParam (scope.kind = .function) PyProof.Rows.call_M_of_MD._auto_3) (hnames : autoParam (∀ y ∈ scope.names, y.2 = .local → scope.names.lookup y.1 = some .local) PyProof.Rows.glB_def._auto_7)
    (hs : autoParam (∀ x, foldedSetIterable iter env x = pure x) PyProof.Rows.Assign_ListComp_rowsP._auto_1) :
    Ev w av k q env σ (.ListComp elt [⟨.Name x px, iter, ifs, 0⟩] scope pos) (.list ((ds.filter p).map f)) :=
  Ev.compG (own := none) (fun d σ => σ.set x d) (Lps.of hit) hclos hcs hph hcap hσ (hk1_of hk1) (hk2_of hk2) (fun av' h₀ C d _ hC => Tgt.name ⟨.inl (hx C), hxd⟩ fun _ e => by cases e) (htf_of hxc) ht he hz hkind hnames hs
end

theorem nabs_lt {n : Nat} (h : n ≤ 100) : (n : Int).natAbs < 2 ^ 64 := (Nat.lt_of_le_of_lt h (by decide) : n < 2 ^ 64)
theorem cast63 {k : Nat} (h : k < 8) : (k : Int) < 2 ^ 63 := Int.lt_trans (Int.ofNat_lt.mpr h) (by decide)
theorem cast6k {j : Nat} (h : j ≤ 100 * 8) : (j : Int) ≤ 1000000 := Int.le_trans (Int.ofNat_le.mpr h) (by decide)
theorem half63 {r : Nat} (h : r ≤ 4) : (r : Int) / 2 < 2 ^ 63 := Int.lt_of_le_of_lt (Int.le_trans (Int.ediv_le_self 2 (Int.natCast_nonneg r)) (Int.ofNat_le.mpr h)) (by decide)
theorem e8a {n : Nat} (h : n ≤ 100) : (0 : Int) ≤ 8 * (n : Int) ∧ (8 : Int) * (n : Int) ≤ 1000000 := ⟨Int.mul_nonneg (by decide) (Int.natCast_nonneg n), Int.le_trans (Int.mul_le_mul_of_nonneg_left (Int.ofNat_le.mpr h) (by decide)) (by decide)⟩
theorem one_le {n : Nat} (h : 4 ≤ n) : 1 ≤ n := Nat.le_trans (by decide) h

/-! the defs, at one depth -/
section
variable {w : Wd}
theorem pow_dval {n : Nat} {xs : List Int} (hl : xs.length = 8) (hb : ∀ d ∈ xs, 0 ≤ d ∧ d < 2 ^ n) : ∃ m : Nat, dval n xs = (m : Int) ∧ m < 2 ^ (n * 8) := by
  obtain ⟨h0, h1⟩ := dval_bd hb
  obtain ⟨m, e⟩ := Int.eq_ofNat_of_zero_le h0
  refine ⟨m, e, ?_⟩
  rw [e, hl] at h1
  exact_mod_cast h1
theorem cal8 {n : Nat} {xs : List Int} (hn1 : 1 ≤ n) (hn2 : n ≤ 100) (hl : xs.length = 8) (hb : ∀ d ∈ xs, 0 ≤ d ∧ d < 2 ^ n) : Cal w 30 false (.ref 136) [.int (dval n xs), .int n] (intsD xs) := by
  obtain ⟨m, e, hm⟩ := pow_dval hl hb
  have := cal_eight (w := w) (k := 16) (m := m) (n := n) hn1 (by omega) hm
  rw [← e] at this
  have e2 := digs_dval n xs hb
  rw [hl] at e2
  rw [e2] at this
  exact this
theorem cald {n : Nat} {xs : List Int} (hn2 : n ≤ 100) (hl : xs.length = 8) (hb : ∀ d ∈ xs, 0 ≤ d ∧ d < 2 ^ n) : Cal w 30 false (.ref 42) [intsD xs, .int n] (.int (dval n xs)) := by
  have := cal_d2i (w := w) (k := 18) (xs := xs) (n := n) (by rw [hl]; omega) (by rw [hl]; decide) hb
  rw [hl] at this
  exact this
theorem cali0 {n : Nat} (hn1 : 1 ≤ n) (hn2 : n ≤ 100) : Cal w 30 false (.ref 35) [.int 0, .int n] (intsD []) := by
  have e : cnt 0 n = 0 := Nat.div_eq_of_lt (by show 0 + n - 1 < n; omega)
  have := cal_i2d (w := w) (k := 25) (a := 0) (n := n) hn1 (by omega) (by rw [e]; decide) (by rw [e]; omega) (by rw [e]; simp)
  rw [e] at this
  exact this
theorem bits_eq {b m : Nat} (h1 : 2 ^ m ≤ b) (h2 : b < 2 ^ (m + 1)) : Builtin.Int.intBits (b : Int) = m + 1 := by
  have h0 : b ≠ 0 := fun e => by subst e; have := Nat.pow_pos (n := m) (show 0 < 2 by decide); omega
  refine Nat.le_antisymm (bits_le h2) ?_
  rcases Nat.lt_or_ge m (Builtin.Int.intBits (b : Int)) with h | h
  · exact h
  · have := lt_bits b
    have : 2 ^ Builtin.Int.intBits (b : Int) ≤ 2 ^ m := Nat.pow_le_pow_right (by decide) h
    omega
theorem room1 {c : Nat} (h : c ≤ 8) : 23 - c + c + 7 = 30 := congrArg (· + 7) (Nat.sub_add_cancel (Nat.le_trans h (by decide)))
theorem room2 {c : Nat} (h : c ≤ 8) : 22 - c + c + 8 = 30 := congrArg (· + 8) (Nat.sub_add_cancel (Nat.le_trans h (by decide)))
theorem neg_pred {a : Nat} (h : 1 ≤ a) : -((a - 1 : Nat) : Int) - 1 = -(a : Int) := match a, h with | b + 1, _ => (Int.neg_add (a := (b : Int)) (b := 1)).symm
/-- division of a number that is nought or above -/
theorem caldm {a b m : Nat} (h1 : 2 ^ m ≤ b) (h2 : b < 2 ^ (m + 1)) (hm : m < 900) (ha : a < 2 ^ ((m + 1) * 8)) (ha2 : a < 2 ^ 800) : Cal w 30 false (.ref 56) [.int a, .int b] (.tup [.int ((a : Int) / b), .int ((a : Int) % b)]) := by
  have hb := bits_eq h1 h2
  have hc := cnt_le8' (n := m + 1) (Nat.succ_pos m) ha
  have hp : 0 < 2 ^ m := Nat.pow_pos (by decide)
  have := cal_idm (w := w) (k := 23 - cnt a (m + 1)) (a := a) (b := b) (n := m + 1) hb.symm (Nat.le_trans hp h1) (Nat.le_trans (bits_le ha2) (by decide)) hm
  rw [room1 hc] at this
  exact this
/-- division of its opposite -/
theorem caldmN {a b m : Nat} (h1 : 2 ^ m ≤ b) (h2 : b < 2 ^ (m + 1)) (hm : m < 900) (ha0 : 1 ≤ a) (ha : a < 2 ^ ((m + 1) * 8)) (ha2 : a < 2 ^ 800) : Cal w 30 false (.ref 56) [.int (-(a : Int)), .int b] (.tup [.int (-(a : Int) / b), .int (-(a : Int) % b)]) := by
  have hb := bits_eq h1 h2
  have hc := cnt_le8' (n := m + 1) (a := a - 1) (Nat.succ_pos m) (Nat.lt_of_le_of_lt (Nat.sub_le _ _) ha)
  have hp : 0 < 2 ^ m := Nat.pow_pos (by decide)
  have := cal_idmN (w := w) (k := 22 - cnt (a - 1) (m + 1)) (m := a - 1) (b := b) (n := m + 1) hb.symm (Nat.le_trans hp h1) (Nat.le_trans (bits_le (Nat.lt_of_le_of_lt (Nat.sub_le _ _) ha2)) (by decide)) hm
  rw [room2 hc, neg_pred ha0] at this
  exact this
end
end Mine

set_option maxRecDepth 100000
set_option maxHeartbeats 2000000
namespace Mine

noncomputable def natsI (fs : List Nat) : List Int := fs.map fun (f : Nat) => (f : Int)
noncomputable def lawInv (n : Nat) (up : Bool) (ord : List Int) (fs : List Nat) (i : Nat) (σ : Sg) (ω : Om) : Prop :=
  ω = none ∧ σ (Str.ofString "up") = some (.bool up) ∧ σ (Str.ofString "wide") = some (.int n) ∧ σ (Str.ofString "shown") = some (intsD (natsI fs)) ∧ σ (Str.ofString "counts") = some (intsD (cs up fs 0)) ∧
  σ (Str.ofString "masks") = some (intsD [(mk n 1 : Int), (mk n 2 : Int), (mk n 4 : Int)]) ∧ σ (Str.ofString "number") = some (.int (dval n (cs up fs (dn ord i).sum.toNat))) ∧ σ (Str.ofString "done") = some (intsD (dn ord i))

theorem Cmp.neLs {w : Wd} {k : Nat} {xs : List Int} : Cmp w k .NotEq (intsD xs) (intsD xs) false := by
  have := Cmp.neL (w := w) (k := k) (xs := xs) (ys := xs)
  rwa [decide_eq_true rfl] at this
theorem Tr.of {w : Wd} {av : List Addr} {k : Nat} {q : Bool} {env : Env} {σ : Sg} {e : Expr} {b b' : Bool} (t : Tr w av k q env σ e b) (h : b = b') : Tr w av k q env σ e b' := h ▸ t
theorem ne_dec (x y : Int) : (x != y) = decide (x ≠ y) := by
  by_cases h : x = y
  · subst h; simp
  · simp [h]
theorem within_len {up : Bool} {fs : List Nat} {done : List Int} {k : Nat} (hf : ∀ f ∈ fs, f < 8) (hk : k < 8) (h0 : 0 ≤ done.sum) (h8 : done.sum.toNat < 8) : (((natsI fs).filter fun f => within f (k : Int) done up).length : Int) = cnt8 up fs done.sum.toNat k := by
  have : ∀ fs : List Nat, (∀ f ∈ fs, f < 8) → ((natsI fs).filter fun f => within f (k : Int) done up).length = cnt8 up fs done.sum.toNat k := by
    intro fs
    induction fs with
    | nil => intro _; rfl
    | cons f fs ih =>
      intro h
      rw [cnt8_cons, ← ih fun x hx => h x (.tail _ hx), ← within_ind (h f (.head _)) hk h0 h8]
      show (List.filter _ ((f : Int) :: natsI fs)).length = _
      rw [List.filter_cons]
      cases within (f : Int) (k : Int) done up <;> rfl
  rw [this fs hf]

section
variable {w : Wd} {av : List Addr} {h₀ : Heap}
theorem law_end {σ : Sg} {n : Nat} {up : Bool} {ord : List Int} {fs : List Nat} (hn1 : 4 ≤ n) (hn2 : n ≤ 100) (hord : ord ∈ orders) (hf : ∀ f ∈ fs, f < 8) (hl : fs.length ≤ 8) (ho : σ (Str.ofString "order") = some (.tup (ord.map .int))) (hI : lawInv n up ord fs 0 σ none) :
    Ex w 30 false h₀ (lawEnv h₀) av σ none (lawBody.drop 13) (RetD w false h₀ av (.bool true)) := by
  obtain ⟨e6, el, el3⟩ := ord_end ord hord
  refine Ex.forW (ds := ord.map D.int ++ ord.map D.int) (fun d σ => σ.set (Str.ofString "right") d) (lawInv n up ord fs) (fun _ => False) (Lps.of (It.tup (Ev.bin (Ev.name ho) (Ev.name ho) (Bin.addT ?_ ?_ ?_)))) hI ?_ ?_ ?_ (fun _ h => h.elim)
  · intro e; have := congrArg List.length e; simp [el3] at this
  · intro e; have := congrArg List.length e; simp [el3] at this
  · rw [List.length_map, el3]; show 6 ≤ 16777216; decide
  · rintro i d σ' ω' hd ⟨rfl, _⟩
    exact Tgt.name (sto_cell 9 rfl rfl) (fun _ e => by cases e)
  · rintro i d σ' ω' hd ⟨rfl, iup, iwide, ishown, icounts, imasks, inum, idone⟩
    rw [← List.map_append] at hd
    have hi : i < 6 := by
      have := (List.getElem?_eq_some_iff.mp hd).1
      rw [List.length_map, el] at this; exact this
    obtain ⟨r, hr, h1, h2, h3, h4, h5, h6, h7⟩ := ord_step ord hord i hi
    rw [List.getElem?_map, h1] at hd
    cases hd
    generalize hdn : dn ord i = done at *
    generalize hd' : done.sum.toNat = d at *
    obtain ⟨N, eN, hN⟩ := pow_dval (cs_len up fs d) (cs_bd up d hl hn1)
    have hN2 : N < 2 ^ 10000 := Nat.lt_of_lt_of_le hN (Nat.pow_le_pow_right (by decide) (Nat.le_trans (Nat.mul_le_mul_right 8 hn2) (by decide)))
    have hr4 : r ≤ 4 := by rcases mem124 hr with rfl | rfl | rfl <;> decide
    have hnr : (n : Int) * (r : Int) = ((n * r : Nat) : Int) := by push_cast; rfl
    have hnr4 : n * r ≤ 400 := Nat.le_trans (Nat.mul_le_mul hn2 hr4) (by decide)
    refine Ex.tupS (xs := [Str.ofString "shift", Str.ofString "mask"]) (ds := [.int ((n * r : Nat) : Int), .int (mk n r : Nat)]) (Ev.tup (Evs.cons (by rw [← hnr]; exact Ev.bin (Ev.name iwide) (Ev.name rfl) (Bin.mul (.inl (nabs_lt hn2)))) (Evs.cons (Ev.sub (Ev.name imasks) (Ev.bin (Ev.name rfl) Ev.int (Bin.div (by decide) (by decide))) (Itm.list (Int.ediv_nonneg (Int.natCast_nonneg _) (by decide)) ?_ (half63 hr4))) .nil))) (sto_bind (sto_loc rfl) (sto_bind (sto_loc rfl) sto_nil)) rfl ?_
    · rcases mem124 hr with rfl | rfl | rfl <;> rfl
    refine Ex.assign (d := .int (dval n (ptL up fs d r))) (Ev.ite (Tr.val (Ev.name iup)) (fun hu => ?_) (fun hu => ?_)) (sto_loc rfl) ?_
    · have e : up = true := hu
      subst e
      rw [← part_up hr hl hn1]
      refine Ev.bin (Ev.bin (Ev.name inum) (Ev.name rfl) Bin.and) (Ev.name rfl) (Bin.shl (Int.natCast_nonneg _) (cast6k (Nat.le_trans hnr4 (by decide))) ?_)
      rw [eN, and_nat]
      exact Nat.lt_of_le_of_lt Nat.and_le_left hN2
    · have e : up = false := hu
      subst e
      rw [← part_down hr hl hn1]
      exact Ev.bin (Ev.bin (Ev.name inum) (Ev.name rfl) (Bin.shr (Int.natCast_nonneg _))) (Ev.name rfl) Bin.and
    have hst := num_step up (n := n) (fs := fs) hr h2 hf
    refine Ex.assign (d := .int (dval n (cs up fs (dnx d r)))) (Ev.ite (Tr.cmp (Ev.name rfl) (Ev.name idone) Cmp.inI) (fun hc => ?_) (fun hc => ?_)) (sto_loc rfl) ?_
    · rw [h6] at hc
      rw [if_pos (of_decide_eq_true hc)] at hst
      rw [← hst]
      exact Ev.bin (Ev.name inum) (Ev.name rfl) Bin.sub
    · rw [h6] at hc
      rw [if_neg (of_decide_eq_false hc)] at hst
      rw [← hst]
      exact Ev.bin (Ev.name inum) (Ev.name rfl) Bin.add
    have edone : intsD (stp done r) = .list ((((done.map D.int).filter (lP fun k => decide (k ≠ (r : Int)))).map (lI fun x => x)) ++ ((if (r : Int) ∈ done then [] else [(r : Int)]).map D.int)) := by
      rw [comp_I, List.map_id']; unfold intsD stp; rw [List.map_append]
    refine Ex.assign (d := intsD (stp done r)) (by
      rw [edone]
      refine Ev.bin (Ev.compN [Str.ofString "right"] (cl := [(Str.ofString "right", h₀.objs.size + 9)]) (lP fun k => decide (k ≠ (r : Int))) (lI fun x => x) (It.list (Ev.name idone)) (by rfl) (cap_one ⟨_, fun _ => rfl, rfl, .inl ⟨rfl, fun _ => rfl⟩⟩) (cap_one ⟨_, rfl⟩) ?_ ?_ ?_) (Ev.ite (Tr.cmp (Ev.name rfl) (Ev.name idone) Cmp.inI) (fun hc => ?_) (fun hc => ?_)) (Bin.addL ?_)
      · intro av' C d hd
        obtain ⟨x, hx, rfl⟩ := mem_ints hd
        exact Tsts.one (Tr.of (Tr.cmp (Ev.name rfl) (Ev.name rfl) Cmp.neI) (ne_dec x r))
      · intro av' C d hd _
        obtain ⟨x, hx, rfl⟩ := mem_ints hd
        exact Ev.name rfl
      · rw [List.length_map]; exact Nat.le_trans h7 (by decide)
      · rw [if_pos (of_decide_eq_true hc)]; exact Ev.list .nil
      · rw [if_neg (of_decide_eq_false hc)]; exact Ev.list (Evs.cons (Ev.name rfl) .nil)
      · rw [List.length_map, List.length_map]
        have h8 := List.length_filter_le (lP fun k => decide (k ≠ (r : Int))) (done.map D.int)
        rw [List.length_map] at h8
        have h9 : (if (r : Int) ∈ done then [] else [(r : Int)]).length ≤ 1 := by split <;> simp
        show _ ≤ 16777216
        omega) (sto_cell 11 rfl rfl) ?_
    obtain ⟨h8, h9⟩ := ord_end8 ord hord i hi
    rw [h4] at h8 h9 h5
    have hb' := cs_bd up (dnx d r) hl hn1
    have hl' := cs_len up fs (dnx d r)
    refine Ex.ifF (Tr.cmp (Ev.calld at_eight (Evs.cons (Ev.name rfl) (Evs.cons (Ev.name iwide) .nil)) (cal8 (one_le hn1) hn2 hl' hb')) ?_ Cmp.neLs) ?_
    · have ecs : intsD (cs up fs (dnx d r)) = .list ((((rng 8).filter (fun _ => true)).map (lI fun k => (cnt8 up fs (dnx d r) k.toNat : Int)))) := rfl
      rw [ecs]
      refine Ev.compG (own := some (Str.ofString "k")) (caps := [Str.ofString "done", Str.ofString "shown", Str.ofString "up"]) (cl := [(Str.ofString "up", h₀.objs.size + 3), (Str.ofString "shown", h₀.objs.size + 6), (Str.ofString "done", h₀.objs.size + 11)]) (fun d σ => σ.set (Str.ofString "k") d) (Lps.of (It.range Ev.int (by decide) boot_range no_range))
        (by rfl) (fun _ => rfl) (fun _ => rfl) (cap_three ⟨_, fun _ => rfl, rfl, .inl ⟨rfl, fun _ => rfl⟩⟩ ⟨_, fun _ => rfl, rfl, .inl ⟨rfl, fun _ => rfl⟩⟩ ⟨_, fun _ => rfl, rfl, .inl ⟨rfl, fun _ => rfl⟩⟩) (cap_three ⟨_, rfl⟩ ⟨_, ishown⟩ ⟨_, iup⟩) (hk1_of rfl) (hk2_of rfl) ?_ (htf_of (by decide)) ?_ ?_ (by show 8 ≤ 16777216; decide)
      · intro av' h₁ C d _ hC
        exact Tgt.name ⟨.inr ⟨rfl, _, rfl, Nat.le_succ_of_le hC⟩, by decide⟩ (fun _ e => by cases e)
      · intro av' C d _
        exact Tsts.nil
      · intro av' C d hd _
        obtain ⟨k, hk, rfl⟩ : ∃ k : Nat, k < 8 ∧ d = .int k := by
          obtain ⟨k, hk, rfl⟩ := List.mem_map.mp hd
          exact ⟨k, List.mem_range.mp hk, rfl⟩
        have ek : lI (fun k => (cnt8 up fs (dnx d r) k.toNat : Int)) (.int (k : Nat)) = .int (((natsI fs).filter fun f => within f (k : Int) (stp done r) up).length : Nat) := by
          show D.int _ = D.int _
          rw [within_len hf hk h9 h8, h5]; rfl
        rw [ek]
        have hlen : ((natsI fs).filter fun f => within f (k : Int) (stp done r) up).length ≤ 8 := Nat.le_trans (List.length_filter_le _ _) (by unfold natsI; rw [List.length_map]; exact hl)
        have hc : Cal w 30 true (.builtin "len") [intsD ((natsI fs).filter fun f => within f (k : Int) (stp done r) up)] (.int (((natsI fs).filter fun f => within f (k : Int) (stp done r) up).length : Nat)) := by
          have := Cal.len (w := w) (k := 30) (q := true) (xs := ((natsI fs).filter fun f => within f (k : Int) (stp done r) up).map D.int) (by rw [List.length_map]; exact Nat.lt_of_le_of_lt hlen (by decide))
          rw [List.length_map] at this
          exact this
        have ein : intsD ((natsI fs).filter fun f => within f (k : Int) (stp done r) up) = .list ((((natsI fs).map D.int).filter (lP fun f => within f (k : Int) (stp done r) up)).map (lI fun x => x)) := by
          rw [comp_I, List.map_id']; rfl
        refine Ev.calb boot_len (Evs.cons (by
          rw [ein]
          refine Ev.compN [Str.ofString "done", Str.ofString "k", Str.ofString "up"] (cl := [(Str.ofString "up", h₀.objs.size + 3), (Str.ofString "k", C + 1), (Str.ofString "done", h₀.objs.size + 11)]) (lP fun f => within f (k : Int) (stp done r) up) (lI fun x => x) (It.list (Ev.name ishown)) (by rfl)
            (cap_three ⟨_, fun _ => rfl, rfl, .inl ⟨rfl, fun _ => rfl⟩⟩ ⟨_, fun _ => rfl, rfl, .inl ⟨rfl, fun _ => rfl⟩⟩ ⟨_, fun _ => rfl, rfl, .inl ⟨rfl, fun _ => rfl⟩⟩) (cap_three ⟨_, rfl⟩ ⟨_, rfl⟩ ⟨_, iup⟩) ?_ ?_ ?_
          · intro av2 C2 d2 hd2
            obtain ⟨x, hx, rfl⟩ := mem_ints hd2
            exact Tsts.one (Tr.of (Tr.val (Ev.calld at_within (Evs.cons (Ev.name rfl) (Evs.cons (Ev.name rfl) (Evs.cons (Ev.name rfl) (Evs.cons (Ev.name iup) .nil)))) cal_within)) rfl)
          · intro av2 C2 d2 hd2 _
            obtain ⟨x, hx, rfl⟩ := mem_ints hd2
            exact Ev.name rfl
          · rw [List.length_map]; unfold natsI; rw [List.length_map]; exact Nat.le_trans hl (by decide)) .nil) hc
    refine Ex.nil fun hp F => ⟨_, _, ?_, F⟩
    exact ⟨rfl, iup, iwide, ishown, icounts, imasks, by rw [h4, h5]; rfl, by rw [h4]; rfl⟩
  · rintro σ' ω' ⟨rfl, iup, iwide, ishown, icounts, imasks, inum, idone⟩
    have e : (ord.map D.int ++ ord.map D.int).length = 6 := by rw [← List.map_append, List.length_map, el]
    rw [e, e6] at inum
    refine Ex.nil fun hp F => ⟨_, _, F, ?_⟩
    have z : dval n (cs up fs ([] : List Int).sum.toNat) - dval n (cs up fs 0) = 0 := Int.sub_self _
    refine Ex.retD (Ev.cmp (Ev.calld at_i2d (Evs.cons (by rw [← z]; exact Ev.bin (Ev.name inum) (Ev.calld at_d2i (Evs.cons (Ev.name icounts) (Evs.cons (Ev.name iwide) .nil)) (cald hn2 (cs_len _ _ _) (cs_bd up 0 hl hn1))) Bin.sub) (Evs.cons (Ev.name iwide) .nil)) (cali0 (one_le hn1) hn2)) (Ev.list .nil) (Cmp.eqL (xs := []) (ys := [])))
end
end Mine

set_option maxRecDepth 100000
set_option maxHeartbeats 2000000
namespace Mine

theorem Cmp.neT2 {w : Wd} {k : Nat} {a b : Int} : Cmp w k .NotEq (.tup [.int a, .int b]) (.tup [.int a, .int b]) false := by
  have := Cmp.neD (w := w) (k := k) (d₁ := .tup [.int a, .int b]) (d₂ := .tup [.int a, .int b]) rfl rfl
  have e : PyData.eqv (D.tup [.int a, .int b]).py (D.tup [.int a, .int b]).py = true := by simp [D.py, D.pys, PyData.eqv, PyData.eqvAll]
  rw [e] at this
  exact this
theorem Cmp.neIs {w : Wd} {k : Nat} {a b : Int} (h : a = b) : Cmp w k .NotEq (.int a) (.int b) false := by
  have := Cmp.neI (w := w) (k := k) (a := a) (b := b)
  rw [h] at *
  simpa using this
theorem len_ints {w : Wd} {k : Nat} {q : Bool} {xs : List Int} (h : xs.length ≤ 1000) : Cal w k q (.builtin "len") [intsD xs] (.int (xs.length : Nat)) := by
  have := Cal.len (w := w) (k := k) (q := q) (xs := xs.map D.int) (by rw [List.length_map]; omega)
  rw [List.length_map] at this
  exact this
theorem shl_list (n : Nat) {xs : List Int} (hl : xs.length = 8) : (((rng 8).filter (fun _ => true)).map (lI fun k => xs.getD k.toNat 0 * 2 ^ (n * k.toNat))) = ((List.range 8).map fun (k : Nat) => xs.getD k 0 * 2 ^ (n * k)).map .int := rfl
theorem shl_sum (n : Nat) {xs : List Int} (hl : xs.length = 8) : ((List.range 8).map fun (k : Nat) => xs.getD k 0 * 2 ^ (n * k)).sum = dval n xs := by
  have := dval_sum n xs
  rw [hl] at this
  exact this

theorem mid_facts {n N : Nat} (hn1 : 4 ≤ n) (hn2 : n ≤ 100) (hN : N < 2 ^ (n * 8)) : 2 ^ (n - 1) ≤ 2 ^ n - 1 ∧ 2 ^ n - 1 < 2 ^ (n - 1 + 1) ∧ (2 : Int) ^ n - 1 = ((2 ^ n - 1 : Nat) : Int) ∧ N < 2 ^ ((n - 1 + 1) * 8) ∧ N < 2 ^ 800 ∧ ((2 : Int) ^ n - 1).natAbs.log2 < 9000 ∧ (16 : Int) ≤ 2 ^ n ∧ (0 : Int) < 2 ^ n - 1 ∧ n - 1 < 900 := by
  have e : n - 1 + 1 = n := Nat.sub_add_cancel (Nat.le_trans (by decide) hn1)
  have h1 : 1 ≤ 2 ^ (n - 1) := Nat.pow_pos (by decide)
  have h2 : 2 ^ n = 2 * 2 ^ (n - 1) := (congrArg (2 ^ ·) e).symm.trans Nat.pow_succ'
  have h3 : 1 ≤ 2 ^ n := Nat.pow_pos (by decide)
  have eB : (2 : Int) ^ n - 1 = ((2 ^ n - 1 : Nat) : Int) := by push_cast [h3]; rfl
  have h16 : (16 : Int) ≤ 2 ^ n := by
    have : (2 : Nat) ^ 4 ≤ 2 ^ n := Nat.pow_le_pow_right (by decide) hn1
    exact_mod_cast this
  have hlt : 2 ^ n - 1 < 2 ^ n := Nat.sub_lt h3 (by decide)
  have hne : 2 ^ n - 1 ≠ 0 := Nat.sub_ne_zero_of_lt (Nat.lt_of_lt_of_le (by decide) (Int.ofNat_le.mp (show ((16 : Nat) : Int) ≤ ((2 ^ n : Nat) : Int) by exact_mod_cast h16)))
  rw [e]
  refine ⟨Nat.le_sub_of_add_le (by rw [h2, Nat.two_mul]; exact Nat.add_le_add_left h1 _), hlt, eB, hN, Nat.lt_of_lt_of_le hN (Nat.pow_le_pow_right (by decide) (Nat.mul_le_mul_right 8 hn2)), ?_, h16, Int.sub_pos.mpr (Int.lt_of_lt_of_le (by decide) h16), Nat.lt_of_le_of_lt (Nat.sub_le _ _) (Nat.lt_of_le_of_lt hn2 (by decide))⟩
  rw [eB, Int.natAbs_natCast]
  exact Nat.lt_of_lt_of_le ((Nat.log2_lt hne).mpr hlt) (Nat.le_trans hn2 (by decide))

section
variable {w : Wd} {av : List Addr} {h₀ : Heap}
theorem law_mid {σ : Sg} {n : Nat} {up : Bool} {ord ms : List Int} {fs : List Nat} (hn1 : 4 ≤ n) (hn2 : n ≤ 100) (hord : ord ∈ orders) (hf : ∀ f ∈ fs, f < 8) (hl : fs.length ≤ 8) (hl1 : 1 ≤ fs.length) (hms : ms.length = fs.length)
    (ho : σ (Str.ofString "order") = some (.tup (ord.map .int))) (hup : σ (Str.ofString "up") = some (.bool up)) (hwide : σ (Str.ofString "wide") = some (.int n)) (hshown : σ (Str.ofString "shown") = some (intsD (natsI fs))) (hcounts : σ (Str.ofString "counts") = some (intsD (cs up fs 0)))
    (hmasks : σ (Str.ofString "masks") = some (intsD [(mk n 1 : Int), (mk n 2 : Int), (mk n 4 : Int)])) (hones : σ (Str.ofString "ones") = some (.int (2 ^ n - 1))) (hmodes : σ (Str.ofString "modes") = some (intsD ms)) :
    Ex w 30 false h₀ (lawEnv h₀) av σ none (lawBody.drop 9) (RetD w false h₀ av (.bool true)) := by
  have hb := cs_bd up 0 hl hn1
  have hc8 := cs_len up fs 0
  obtain ⟨N, eN, hN⟩ := pow_dval hc8 hb
  obtain ⟨p1, p2, eB, hN', hN2, blog, h16, bpos, hnl⟩ := mid_facts hn1 hn2 hN
  have hmod := num_mod up hf hl hn1
  have hpos := num_pos up hf hl hn1 hl1
  have hlb : (fs.length : Int) < 2 ^ n - 1 := len_ones h16 hl
  have hmodN : (-dval n (cs up fs 0)) % (2 ^ n - 1) = (2 ^ n - 1) - fs.length := neg_mod hmod (Int.ofNat_lt.mpr hl1) hlb
  have c1 : Cal w 30 false (.ref 56) [.int (dval n (cs up fs 0)), .int (2 ^ n - 1)] (.tup [.int (dval n (cs up fs 0) / (2 ^ n - 1)), .int fs.length]) := by
    rw [← hmod, eN, eB]; exact caldm p1 p2 hnl hN' hN2
  have c2 : Cal w 30 false (.ref 56) [.int (-dval n (cs up fs 0)), .int (2 ^ n - 1)] (.tup [.int (-dval n (cs up fs 0) / (2 ^ n - 1)), .int ((2 ^ n - 1) - fs.length)]) := by
    rw [← hmodN, eN, eB]; exact caldmN p1 p2 hnl (Int.ofNat_le.mp (eN ▸ hpos)) hN' hN2
  clear hN2 hN' p1 p2 eB hN eN h16 hmod hmodN hpos hlb hnl
  refine Ex.tupP (xs := [Str.ofString "number", Str.ofString "done"]) (ds := [.int (dval n (cs up fs 0)), .list []]) (Ev.tup (Evs.cons (Ev.calld at_d2i (Evs.cons (Ev.name hcounts) (Evs.cons (Ev.name hwide) .nil)) (cald hn2 hc8 hb)) (Evs.cons (Ev.list .nil) .nil))) (sto_assign (sto_loc rfl) (sto_assign (sto_cell 11 rfl rfl) sto_nil)) rfl ?_
  refine Ex.ifF (Tr.cmp (Ev.name rfl) (Ev.calb boot_sum (Evs.cons (d := intsD ((List.range 8).map fun (k : Nat) => (cs up fs 0).getD k 0 * 2 ^ (n * k))) ?_ .nil) Cal.sum) (Cmp.neIs (shl_sum n hc8).symm)) ?_
  · show Ev _ _ _ _ _ _ _ (.list (((List.range 8).map fun (k : Nat) => (cs up fs 0).getD k 0 * 2 ^ (n * k)).map .int))
    rw [← shl_list n hc8]
    refine Ev.compN [Str.ofString "counts", Str.ofString "wide"] (cl := [(Str.ofString "wide", h₀.objs.size + 4), (Str.ofString "counts", h₀.objs.size + 7)]) (fun _ => true) (lI fun k => (cs up fs 0).getD k.toNat 0 * 2 ^ (n * k.toNat)) (It.range Ev.int (by decide) boot_range no_range) (by rfl)
      (cap_two ⟨_, fun _ => rfl, rfl, .inl ⟨rfl, fun _ => rfl⟩⟩ ⟨_, fun _ => rfl, rfl, .inl ⟨rfl, fun _ => rfl⟩⟩) (cap_two ⟨_, hcounts⟩ ⟨_, hwide⟩) (fun av' C d _ => Tsts.nil) ?_ (by show 8 ≤ 16777216; decide)
    intro av' C d hd _
    obtain ⟨k, hk, rfl⟩ : ∃ k : Nat, k < 8 ∧ d = .int k := by
      obtain ⟨k, hk, rfl⟩ := List.mem_map.mp hd
      exact ⟨k, List.mem_range.mp hk, rfl⟩
    have hkl : k < (cs up fs 0).length := by rw [hc8]; exact hk
    have hx : (cs up fs 0).getD k 0 = ((cs up fs 0)[k]'hkl) := by simp [hkl]
    have ek : lI (fun k => (cs up fs 0).getD k.toNat 0 * 2 ^ (n * k.toNat)) (.int (k : Nat)) = .int (((cs up fs 0)[k]'hkl) * 2 ^ ((n : Int) * (k : Int)).toNat) := by
      show D.int ((cs up fs 0).getD k 0 * 2 ^ (n * k)) = _
      rw [hx, show (n : Int) * (k : Int) = ((n * k : Nat) : Int) by push_cast; rfl, Int.toNat_natCast]
    have hnk : n * k ≤ 100 * 8 := Nat.mul_le_mul hn2 (Nat.le_of_lt hk)
    have hnk2 : (n : Int) * (k : Int) = ((n * k : Nat) : Int) := by push_cast; rfl
    rw [ek]
    refine Ev.bin (Ev.sub (Ev.name hcounts) (Ev.name rfl) (Itm.list (d := .int ((cs up fs 0)[k]'hkl)) (Int.natCast_nonneg _) ?_ (cast63 hk))) (Ev.bin (Ev.name hwide) (Ev.name rfl) (Bin.mul (.inl (nabs_lt hn2)))) (Bin.shl (by rw [hnk2]; exact Int.natCast_nonneg _) (by rw [hnk2]; exact cast6k hnk) ?_)
    · rw [Int.toNat_natCast, List.getElem?_map, List.getElem?_eq_getElem hkl]; rfl
    · have := hb _ (List.getElem_mem hkl)
      exact Nat.lt_of_lt_of_le (natAbs_lt this.1 this.2) (Nat.pow_le_pow_right (by decide) (Nat.le_trans hn2 (by decide)))
  refine Ex.ifF (Tr.cmp (Ev.calld at_intdivmod (Evs.cons (Ev.name rfl) (Evs.cons (Ev.name hones) .nil)) c1) (Ev.tup (Evs.cons (Ev.bin (Ev.name rfl) (Ev.name hones) (Bin.div bpos blog)) (Evs.cons (Ev.calb boot_len (Evs.cons (Ev.name hmodes) .nil) (by have := len_ints (w := w) (k := 30) (q := false) (xs := ms) (by rw [hms]; exact Nat.le_trans hl (by decide)); rw [hms] at this; exact this)) .nil))) Cmp.neT2) ?_
  refine Ex.ifF (Tr.cmp (Ev.calld at_intdivmod (Evs.cons (Ev.neg (Ev.name rfl)) (Evs.cons (Ev.name hones) .nil)) c2) (Ev.tup (Evs.cons (Ev.bin (Ev.neg (Ev.name rfl)) (Ev.name hones) (Bin.div bpos blog)) (Evs.cons (Ev.bin (Ev.name hones) (Ev.calb boot_len (Evs.cons (Ev.name hmodes) .nil) (by have := len_ints (w := w) (k := 30) (q := false) (xs := ms) (by rw [hms]; exact Nat.le_trans hl (by decide)); rw [hms] at this; exact this)) Bin.sub) .nil))) Cmp.neT2) ?_
  exact law_end hn1 hn2 hord hf hl ho ⟨rfl, hup, hwide, hshown, hcounts, hmasks, rfl, rfl⟩
end
end Mine

set_option maxRecDepth 100000
set_option maxHeartbeats 2000000
namespace Mine

noncomputable def mkL (n : Nat) : List Int := [(mk n 1 : Int), (mk n 2 : Int), (mk n 4 : Int)]
noncomputable def maskInv (n : Nat) (up : Bool) (ord ms : List Int) (fs : List Nat) (a : Addr) (i : Nat) (σ : Sg) (ω : Om) : Prop :=
  ω = some (Str.ofString "masks", a, ((mkL n).take i).map .int) ∧ σ (Str.ofString "order") = some (.tup (ord.map .int)) ∧ σ (Str.ofString "up") = some (.bool up) ∧ σ (Str.ofString "wide") = some (.int n) ∧ σ (Str.ofString "shown") = some (intsD (natsI fs)) ∧
  σ (Str.ofString "counts") = some (intsD (cs up fs 0)) ∧ σ (Str.ofString "ones") = some (.int (2 ^ n - 1)) ∧ σ (Str.ofString "modes") = some (intsD ms)

section
variable {w : Wd} {av : List Addr} {h₀ : Heap}
theorem cmask {n r : Nat} (hn1 : 4 ≤ n) (hn2 : n ≤ 100) (hr : r ∈ [1, 2, 4]) : Cal w 30 false (.ref 56) [.int (2 ^ ((8 : Int) * (n : Int)).toNat - 1), .int (2 ^ ((n : Int) * (r : Int)).toNat + 1)] (.tup [.int (mk n r : Nat), .int 0]) := by
  have hr1 : 1 ≤ r ∧ r ≤ 4 := by rcases mem124 hr with rfl | rfl | rfl <;> decide
  have e1 : ((8 : Int) * (n : Int)).toNat = 8 * n := rfl
  have e2 : ((n : Int) * (r : Int)).toNat = n * r := by rw [show (n : Int) * (r : Int) = ((n * r : Nat) : Int) by push_cast; rfl, Int.toNat_natCast]
  obtain ⟨d1, d2⟩ := mask_div (n := n) hr
  have hnr : n ≤ n * r := Nat.le_mul_of_pos_right _ hr1.1
  have hnr4 : n * r ≤ 100 * 4 := Nat.mul_le_mul hn2 hr1.2
  have one : ∀ j : Nat, 1 ≤ 2 ^ j := fun j => Nat.pow_pos (by decide)
  have ea : (2 : Int) ^ (8 * n) - 1 = ((2 ^ (8 * n) - 1 : Nat) : Int) := by have := one (8 * n); push_cast [this]; rfl
  have eb : (2 : Int) ^ (n * r) + 1 = ((2 ^ (n * r) + 1 : Nat) : Int) := by push_cast; rfl
  rw [e1, e2, ← d1, ← d2, ea, eb]
  have h2 : 2 ^ 2 ≤ 2 ^ (n * r) := Nat.pow_le_pow_right (by decide) (Nat.le_trans (Nat.le_trans (by decide : 2 ≤ 4) hn1) hnr)
  have h3 : 2 ^ (n * r + 1) = 2 * 2 ^ (n * r) := Nat.pow_succ'
  have h4 : 2 ^ (8 * n) ≤ 2 ^ ((n * r + 1) * 8) := Nat.pow_le_pow_right (by decide) (by rw [Nat.mul_comm 8 n]; exact Nat.mul_le_mul_right 8 (Nat.le_succ_of_le hnr))
  have h5 : 2 ^ (8 * n) ≤ 2 ^ 800 := Nat.pow_le_pow_right (by decide) (Nat.le_trans (Nat.mul_le_mul_left 8 hn2) (by decide))
  have h6 := one (8 * n)
  exact caldm (m := n * r) (Nat.le_succ _) (by rw [h3, Nat.two_mul]; exact Nat.add_lt_add_left (Nat.lt_of_lt_of_le (by decide) h2) _) (Nat.lt_of_le_of_lt hnr4 (by decide)) (Nat.lt_of_lt_of_le (Nat.sub_lt h6 (by decide)) h4) (Nat.lt_of_lt_of_le (Nat.sub_lt h6 (by decide)) h5)

theorem law_masks {σ : Sg} {n : Nat} {up : Bool} {ord ms : List Int} {fs : List Nat} {a : Addr} (hna : a ∉ av) (hn1 : 4 ≤ n) (hn2 : n ≤ 100) (hord : ord ∈ orders) (hf : ∀ f ∈ fs, f < 8) (hl : fs.length ≤ 8) (hl1 : 1 ≤ fs.length) (hms : ms.length = fs.length) (hI : maskInv n up ord ms fs a 0 σ (some (Str.ofString "masks", a, []))) :
    Ex w 30 false h₀ (lawEnv h₀) (a :: av) σ (some (Str.ofString "masks", a, [])) (lawBody.drop 8) (RetD w false h₀ av (.bool true)) := by
  refine Ex.forW (ds := [.int 1, .int 2, .int 4]) (fun d σ => σ.set (Str.ofString "right") d) (maskInv n up ord ms fs a) (fun _ => False) (Lps.of (It.tup (Ev.tup (Evs.cons Ev.int (Evs.cons Ev.int (Evs.cons Ev.int .nil)))))) hI ?_ ?_ ?_ (fun _ h => h.elim)
  · rintro i d σ' ω' hd ⟨rfl, _⟩
    exact Tgt.name (sto_cell 9 rfl rfl) (by intro p e; cases e; show Str.ofString "masks" ≠ _; decide)
  · rintro i d σ' ω' hd ⟨rfl, iord, iup, iwide, ishown, icounts, iones, imodes⟩
    obtain ⟨r, hr, rfl, hnext⟩ : ∃ r : Nat, r ∈ [1, 2, 4] ∧ d = .int r ∧ (mkL n).take (i + 1) = (mkL n).take i ++ [(mk n r : Int)] := by
      match i, hd with
      | 0, hd => cases hd; exact ⟨1, by decide, rfl, rfl⟩
      | 1, hd => cases hd; exact ⟨2, by decide, rfl, rfl⟩
      | 2, hd => cases hd; exact ⟨4, by decide, rfl, rfl⟩
    have hr1 : 1 ≤ r ∧ r ≤ 4 := by rcases mem124 hr with rfl | rfl | rfl <;> decide
    have rlog : (r : Int).natAbs.log2 < 9000 := by rcases mem124 hr with rfl | rfl | rfl <;> decide
    have hnr4 : n * r ≤ 100 * 4 := Nat.mul_le_mul hn2 hr1.2
    have hnr : (n : Int) * (r : Int) = ((n * r : Nat) : Int) := by push_cast; rfl
    have em := mk_cast (n := n) hr
    have tl := told_len n r
    have tb := told_bd (n := n) hr
    have ωn : ∀ x, Str.ofString "masks" ≠ x → Om.not (some (Str.ofString "masks", a, ((mkL n).take i).map .int)) x := fun x h p e => by cases e; exact h
    have ωs : ∀ x ∈ [Str.ofString "pair", Str.ofString "told"], Om.not (some (Str.ofString "masks", a, ((mkL n).take i).map .int)) x := cap_two (ωn _ (by decide)) (ωn _ (by decide))
    refine Ex.tupP (xs := [Str.ofString "pair", Str.ofString "told"]) (ds := [.tup [.int (mk n r : Nat), .int 0], intsD (told n r)]) (Ev.tup (Evs.cons (Ev.calld at_intdivmod (Evs.cons ?_ (Evs.cons ?_ .nil)) (cmask hn1 hn2 hr)) (Evs.cons ?_ .nil))) (sto_assign (sto_loc rfl) (sto_assign (sto_cell 10 rfl rfl) sto_nil)) rfl ?_ ωs
    · exact Ev.bin (Ev.bin Ev.int (Ev.bin Ev.int (Ev.name iwide) (Bin.mul (.inl (by decide)))) (Bin.pow (e8a hn2).1 (e8a hn2).2 (by decide))) Ev.int Bin.sub
    · exact Ev.bin (Ev.bin Ev.int (Ev.bin (Ev.name iwide) (Ev.name rfl) (Bin.mul (.inl (nabs_lt hn2)))) (Bin.pow (by rw [hnr]; exact Int.natCast_nonneg _) (by rw [hnr]; exact cast6k (Nat.le_trans hnr4 (by decide))) (by decide))) Ev.int Bin.add
    · show Ev _ _ _ _ _ _ _ (.list (((rng 8).filter (fun _ => true)).map (lI fun k => (2 ^ n - 1) * (1 - k / (r : Int) % 2))))
      refine Ev.compN [Str.ofString "ones", Str.ofString "right"] (cl := [(Str.ofString "right", h₀.objs.size + 9), (Str.ofString "ones", h₀.objs.size + 8)]) (fun _ => true) (lI fun k => (2 ^ n - 1) * (1 - k / (r : Int) % 2)) (It.range Ev.int (by decide) boot_range no_range) (by rfl)
        (cap_two ⟨_, fun _ => rfl, rfl, .inl ⟨rfl, fun _ => rfl⟩⟩ ⟨_, fun _ => rfl, rfl, .inl ⟨rfl, fun _ => rfl⟩⟩) (cap_two ⟨_, iones⟩ ⟨_, rfl⟩) (fun av' C d _ => Tsts.nil) ?_ (by show 8 ≤ 16777216; decide)
      intro av' C d hd _
      obtain ⟨k, hk, rfl⟩ : ∃ k : Nat, k < 8 ∧ d = .int k := by
        obtain ⟨k, hk, rfl⟩ := List.mem_map.mp hd
        exact ⟨k, List.mem_range.mp hk, rfl⟩
      refine Ev.bin (Ev.name iones) (Ev.bin Ev.int (Ev.bin (Ev.bin (Ev.name rfl) (Ev.name rfl) (Bin.div (Int.ofNat_lt.mpr hr1.1) rlog)) Ev.int (Bin.mod (by decide))) Bin.sub) (Bin.mul (.inr ?_))
      rcases Int.emod_two_eq ((k : Int) / (r : Int)) with h | h <;> rw [h] <;> decide
    refine Ex.ifF (Tr.of (b := false || false) (Tr.or2 (Tr.cmp (Ev.name rfl) (Ev.tup (Evs.cons (Ev.calb boot_sum (Evs.cons (d := intsD ((List.range 8).map fun (k : Nat) => (told n r).getD k 0 * 2 ^ (n * k))) ?_ .nil) Cal.sum) (Evs.cons Ev.int .nil))) (by rw [shl_sum n tl, ← em]; exact Cmp.neT2)) fun _ => Tr.cmp (Ev.calld at_eight (Evs.cons (Ev.sub (Ev.name rfl) Ev.int (Itm.tup (d := .int (mk n r : Nat)) (by decide) rfl (by decide))) (Evs.cons (Ev.name iwide) .nil)) (by rw [em]; exact cal8 (one_le hn1) hn2 tl tb)) (Ev.name rfl) Cmp.neLs) rfl) ?_
    · show Ev _ _ _ _ _ _ _ (.list (((List.range 8).map fun (k : Nat) => (told n r).getD k 0 * 2 ^ (n * k)).map .int))
      rw [← shl_list n tl]
      refine Ev.compN [Str.ofString "told", Str.ofString "wide"] (cl := [(Str.ofString "wide", h₀.objs.size + 4), (Str.ofString "told", h₀.objs.size + 10)]) (fun _ => true) (lI fun k => (told n r).getD k.toNat 0 * 2 ^ (n * k.toNat)) (It.range Ev.int (by decide) boot_range no_range) (by rfl)
        (cap_two ⟨_, fun _ => rfl, rfl, .inl ⟨rfl, fun _ => rfl⟩⟩ ⟨_, fun _ => rfl, rfl, .inl ⟨rfl, fun _ => rfl⟩⟩) (cap_two ⟨_, rfl⟩ ⟨_, iwide⟩) (fun av' C d _ => Tsts.nil) ?_ (by show 8 ≤ 16777216; decide)
      intro av' C d hd _
      obtain ⟨k, hk, rfl⟩ : ∃ k : Nat, k < 8 ∧ d = .int k := by
        obtain ⟨k, hk, rfl⟩ := List.mem_map.mp hd
        exact ⟨k, List.mem_range.mp hk, rfl⟩
      have hkl : k < (told n r).length := by rw [tl]; exact hk
      have hx : (told n r).getD k 0 = (told n r)[k]'hkl := by simp [hkl]
      have ek : lI (fun k => (told n r).getD k.toNat 0 * 2 ^ (n * k.toNat)) (.int (k : Nat)) = .int ((told n r)[k]'hkl * 2 ^ ((n : Int) * (k : Int)).toNat) := by
        show D.int ((told n r).getD k 0 * 2 ^ (n * k)) = _
        rw [hx, show (n : Int) * (k : Int) = ((n * k : Nat) : Int) by push_cast; rfl, Int.toNat_natCast]
      have hnk : n * k ≤ 100 * 8 := Nat.mul_le_mul hn2 (Nat.le_of_lt hk)
      have hnk2 : (n : Int) * (k : Int) = ((n * k : Nat) : Int) := by push_cast; rfl
      rw [ek]
      refine Ev.bin (Ev.sub (Ev.name rfl) (Ev.name rfl) (Itm.list (d := .int ((told n r)[k]'hkl)) (Int.natCast_nonneg _) ?_ (cast63 hk))) (Ev.bin (Ev.name iwide) (Ev.name rfl) (Bin.mul (.inl (nabs_lt hn2)))) (Bin.shl (by rw [hnk2]; exact Int.natCast_nonneg _) (by rw [hnk2]; exact cast6k hnk) ?_)
      · rw [Int.toNat_natCast, List.getElem?_map, List.getElem?_eq_getElem hkl]; rfl
      · have := tb _ (List.getElem_mem hkl)
        exact Nat.lt_of_lt_of_le (natAbs_lt this.1 this.2) (Nat.pow_le_pow_right (by decide) (Nat.le_trans hn2 (by decide)))
    refine Ex.app (Ev.sub (Ev.name rfl) Ev.int (Itm.tup (d := .int (mk n r : Nat)) (by decide) rfl (by decide))) (by rw [List.length_map, List.length_take]; exact Nat.le_trans (Nat.min_le_right _ _) (by show 3 ≤ 16777216; decide)) (Ex.nil fun hp F => ?_)
    refine ⟨_, _, ?_, F⟩
    exact ⟨by rw [hnext, List.map_append]; rfl, iord, iup, iwide, ishown, icounts, iones, imodes⟩
  · rintro σ' ω' ⟨rfl, iord, iup, iwide, ishown, icounts, iones, imodes⟩
    refine Ex.nil fun hp F => ⟨_, _, F, ?_⟩
    refine Ex.rel hna ?_
    exact law_mid hn1 hn2 hord hf hl hl1 hms iord iup iwide ishown icounts rfl iones imodes
end
end Mine

set_option maxRecDepth 100000
set_option maxHeartbeats 1000000
namespace Mine

theorem join_ten (a b c d e f g h i j : Nat) : Txt.join (tx []) ([a, b, c, d, e, f, g, h, i, j].map fun c => tx [c]) = tx [a, b, c, d, e, f, g, h, i, j] := by rfl
theorem row_ten (m : Int) : ∃ a b c d e f g h i j, rowOf m = [a, b, c, d, e, f, g, h, i, j] := ⟨_, _, _, _, _, _, _, _, _, _, rfl⟩
theorem row_join (m : Int) : Txt.join (tx []) ((perms m 10).map fun c => tx [c]) = tx (rowOf m) := by
  rw [row_eq]
  obtain ⟨a, b, c, d, e, f, g, h, i, j, e1⟩ := row_ten m
  rw [e1]
  exact join_ten a b c d e f g h i j
theorem row_len (m : Int) : (rowOf m).length = 10 := rfl
theorem sgn_lt {t : List Nat} (h : t.all (· < 128) = true) (i : Int) : sgn t i < 128 := by
  unfold sgn
  rw [List.getD_eq_getElem?_getD]
  cases e : t[i.toNat]? with
  | none => exact (by decide : (0 : Nat) < 128)
  | some c => exact of_decide_eq_true (List.all_eq_true.mp h c (List.mem_of_getElem? e))
theorem row_128 (m : Int) : (rowOf m).all (· < 128) = true := by
  have h1 := sgn_lt (t := kinds) (by decide)
  have h2 := sgn_lt (t := [45, 114]) (by decide)
  have h3 := sgn_lt (t := [45, 119]) (by decide)
  have h4 := sgn_lt (t := xSs) (by decide)
  have h5 := sgn_lt (t := xTt) (by decide)
  simp [rowOf, trio, h1, h2, h3, h4, h5]

/-! lists of texts are compared -/
noncomputable def strsD (xs : List Str) : D := .list (xs.map .str)
theorem pys_strs : ∀ xs : List Str, D.pys (xs.map D.str) = xs.map PyData.str
  | [] => by simp [D.pys]
  | x :: xs => by rw [List.map_cons, D.pys, pys_strs xs, D.py]; rfl
theorem lay_strs : ∀ xs : List Str, (∀ x ∈ xs, PyData.strOk x = true) → PyData.canLayAll0 (xs.map .str) = true ∧ PyData.depthAll (xs.map .str) = 0
  | [], _ => by simp [PyData.canLayAll0, PyData.depthAll]
  | x :: xs, h => by
    obtain ⟨h1, h2⟩ := lay_strs xs fun y hy => h y (.tail _ hy)
    simp [PyData.canLayAll0, PyData.canLay0, PyData.depthAll, PyData.depth, h1, h2, h x (.head _)]
theorem shaped_strs {xs : List Str} (h : ∀ x ∈ xs, PyData.strOk x = true) : SeqAt.shaped (strsD xs).py = true := by
  obtain ⟨h1, h2⟩ := lay_strs xs h
  simp [SeqAt.shaped, strsD, D.py, pys_strs, PyData.canLay0, PyData.depth, h1, h2]
theorem eqv_strs : ∀ xs : List Str, PyData.eqvAll (xs.map .str) (xs.map .str) = true
  | [] => by simp [PyData.eqvAll]
  | x :: xs => by simp only [List.map_cons, PyData.eqvAll, PyData.eqv, eqv_strs xs]; simp
theorem Cmp.neS {w : Wd} {k : Nat} {xs : List Str} (h : ∀ x ∈ xs, PyData.strOk x = true) : Cmp w k .NotEq (strsD xs) (strsD xs) false := by
  have := Cmp.neD (w := w) (k := k) (shaped_strs h) (shaped_strs h)
  have e : PyData.eqv (strsD xs).py (strsD xs).py = true := by simp only [strsD, D.py, pys_strs, PyData.eqv, eqv_strs]
  rw [e] at this
  exact this

/-! slices of the script -/
theorem clip_nat (n k : Nat) : clipAt n (k : Int) = min k n := by
  unfold clipAt
  rw [if_neg (Int.not_lt.mpr (Int.natCast_nonneg k))]
  first | rfl | exact Nat.min_comm _ _ | omega
theorem cut_first (ns : List Int) : cutL (ns.map D.int) none (some 1) = (ns.take 1).map D.int := by
  match ns with
  | [] => rfl
  | [a] => rfl
  | a :: b :: r =>
    unfold cutL
    have e : clipAt ((a :: b :: r).map D.int).length 1 = 1 := (clip_nat _ 1).trans (Nat.min_eq_left (Nat.succ_le_succ (Nat.zero_le _)))
    simp only [Option.elim, e]
    rfl
theorem cut_five (ns : List Int) : cutL (ns.map D.int) (some 1) (some 6) = ((ns.drop 1).take 5).map D.int := by
  unfold cutL
  simp only [Option.elim]
  have e1 : clipAt (ns.map D.int).length 1 = min 1 ns.length := by rw [List.length_map]; exact clip_nat _ 1
  have e6 : clipAt (ns.map D.int).length 6 = min 6 ns.length := by rw [List.length_map]; exact clip_nat _ 6
  rw [e1, e6, ← List.map_drop, ← List.map_take]
  congr 1
  rcases Nat.lt_or_ge ns.length 1 with h | h
  · have : ns = [] := by cases ns with | nil => rfl | cons => simp at h
    subst this; rfl
  · rw [Nat.min_eq_left h]
    rcases Nat.lt_or_ge ns.length 6 with h' | h'
    · rw [Nat.min_eq_right (Nat.le_of_lt h'), List.take_of_length_le, List.take_of_length_le]
      · rw [List.length_drop]; omega
      · rw [List.length_drop]; omega
    · rw [Nat.min_eq_left h']
end Mine

set_option maxRecDepth 100000
set_option maxHeartbeats 400000
namespace Mine

theorem tx_ok (m : Int) : PyData.strOk (tx (rowOf m)) = true := by
  have h := row_128 m
  show (rowOf m).toArray.all (· < 0x110000) = true
  rw [List.all_toArray]
  refine List.all_eq_true.mpr fun c hc => decide_eq_true ?_
  have := of_decide_eq_true (List.all_eq_true.mp h c hc)
  first | exact Nat.lt_trans this (by decide) | omega
noncomputable def rowsS (ms : List Int) : List Str := ms.map fun m => tx (rowOf m)
noncomputable def fR : D → D
  | .int m => .str (tx (rowOf m))
  | d => d
noncomputable def fS (sp : Int) : D → D
  | .str x => .int (shownV x.cps.toList sp.toNat)
  | d => d
noncomputable def tr (_ : D) : Bool := true
theorem filter_tr (l : List D) : l.filter tr = l := List.filter_eq_self.mpr fun _ _ => rfl
theorem rows_eq (ms : List Int) : .list (((ms.map D.int).filter tr).map fR) = strsD (rowsS ms) := by
  rw [filter_tr, List.map_map]; unfold strsD rowsS; rw [List.map_map]; rfl
noncomputable def figs (ms : List Int) (i : Int) : List Nat := ms.map fun m => (m / wtOf i % 8).toNat
theorem figs_eq {i : Int} (hi : i = 0 ∨ i = 1 ∨ i = 2) (ms : List Int) : D.list (((ms.map D.int).filter tr).map (lI fun m => Builtin.bitAnd m 4095 / wtOf i % 8)) = intsD (natsI (figs ms i)) := by
  rw [filter_tr, List.map_map]; unfold intsD natsI figs; rw [List.map_map, List.map_map]
  congr 1
  refine List.map_congr_left fun m _ => ?_
  show D.int (Builtin.bitAnd m 4095 / wtOf i % 8) = D.int (((m / wtOf i % 8).toNat : Nat) : Int)
  rw [(fig_shown hi m).1, Int.toNat_of_nonneg (Int.emod_nonneg _ (by decide))]
theorem shown_eq {i : Int} (hi : i = 0 ∨ i = 1 ∨ i = 2) (ms : List Int) : D.list ((((rowsS ms).map D.str).filter tr).map (fS (spotOf i))) = intsD (natsI (figs ms i)) := by
  rw [filter_tr, List.map_map]; unfold intsD natsI figs rowsS; rw [List.map_map, List.map_map, List.map_map]
  congr 1
  refine List.map_congr_left fun m _ => ?_
  show D.int (shownV (rowOf m) (spotOf i).toNat) = D.int (((m / wtOf i % 8).toNat : Nat) : Int)
  rw [(fig_shown hi m).2, Int.toNat_of_nonneg (Int.emod_nonneg _ (by decide))]
theorem figs_lt (ms : List Int) (i : Int) : ∀ f ∈ figs ms i, f < 8 := fun f hf => by
  obtain ⟨m, _, rfl⟩ := List.mem_map.mp hf
  first | exact (Int.toNat_lt (Int.emod_nonneg _ (by decide))).mpr (Int.emod_lt_of_pos _ (by decide)) | omega

theorem mod3 (F : Int) : F % 3 = 0 ∨ F % 3 = 1 ∨ F % 3 = 2 := by
  have key : ∀ k < 3, ((k : Nat) : Int) = 0 ∨ ((k : Nat) : Int) = 1 ∨ ((k : Nat) : Int) = 2 := by decide
  have h := Int.emod_lt_of_pos F (b := 3) (by decide)
  obtain ⟨k, hk⟩ := Int.eq_ofNat_of_zero_le (Int.emod_nonneg F (b := 3) (by decide))
  rw [hk] at h ⊢
  exact key k (Int.ofNat_lt.mp h)
theorem mod6 (F : Int) : F % 6 = 0 ∨ F % 6 = 1 ∨ F % 6 = 2 ∨ F % 6 = 3 ∨ F % 6 = 4 ∨ F % 6 = 5 := by
  have key : ∀ k < 6, ((k : Nat) : Int) = 0 ∨ ((k : Nat) : Int) = 1 ∨ ((k : Nat) : Int) = 2 ∨ ((k : Nat) : Int) = 3 ∨ ((k : Nat) : Int) = 4 ∨ ((k : Nat) : Int) = 5 := by decide
  have h := Int.emod_lt_of_pos F (b := 6) (by decide)
  obtain ⟨k, hk⟩ := Int.eq_ofNat_of_zero_le (Int.emod_nonneg F (b := 6) (by decide))
  rw [hk] at h ⊢
  exact key k (Int.ofNat_lt.mp h)
theorem mod_lt63 (F : Int) {b : Int} (h : 0 < b) (hb : b ≤ 2 ^ 63) : F % b < 2 ^ 63 := Int.lt_of_lt_of_le (Int.emod_lt_of_pos F h) hb
theorem mod_le6 (F : Int) {b : Int} (h : 0 < b) (hb : b ≤ 1000000) : F % b ≤ 1000000 := Int.le_trans (Int.le_of_lt (Int.emod_lt_of_pos F h)) hb
theorem wide_ok (F : Int) : ∃ n : Nat, 4 + F / 36 % 97 = (n : Int) ∧ 4 ≤ n ∧ n ≤ 100 := by
  have h := Int.emod_lt_of_pos (F / 36) (b := 97) (by decide)
  obtain ⟨k, hk⟩ := Int.eq_ofNat_of_zero_le (Int.emod_nonneg (F / 36) (b := 97) (by decide))
  rw [hk] at h ⊢
  exact ⟨4 + k, rfl, Nat.le_add_right 4 k, Nat.add_le_add_left (Nat.le_of_lt_succ (Int.ofNat_lt.mp h)) 4⟩
noncomputable def msOf (ns : List Int) : List Int := [35309, 16872, 33188] ++ (ns.drop 1).take 5
theorem ms_len (ns : List Int) : 3 ≤ (msOf ns).length ∧ (msOf ns).length ≤ 8 := by
  unfold msOf
  rw [List.length_append, List.length_take, List.length_drop]
  show 3 ≤ 3 + _ ∧ 3 + _ ≤ 8
  exact ⟨Nat.le_add_right _ _, Nat.add_le_add_left (Nat.min_le_left _ _) 3⟩
noncomputable def ordOf (j : Int) : List Int := orders.getD j.toNat []

section
variable {w : Wd}
theorem law_ob : ∃ o, (hd.heap_39 w.params).lookup 141 = some o ∧ o.data = .func lawFd := Option.map_eq_some_iff.mp (show ((hd.heap_39 w.params).lookup 141).map (·.data) = some (.func lawFd) from rfl)
theorem law_body : lawFd.body = .stmts lawBody := rfl
theorem law_gl : lawFd.globals = mainGlobals := rfl
theorem law_bl : lawFd.builtins = builtinsNs := rfl
theorem law_cl : lawFd.closure = [] := rfl
theorem law_cd : codeIn (hd.heap_39 w.params) lawFd.code lawFd.qualname = true := by rfl
theorem law_loc : ∀ x ∈ [Str.ofString "script"], (lawFd.scope.names.lookup x = some .local ∨ (lawFd.scope.names.lookup x = some .cell ∧ ∀ n, ((cellsFrom n lawFd.scope.names []).lookup x).isSome = true)) ∧ (x == ("__debug__" : Str)) = false := cap_one ⟨.inl rfl, by decide⟩
theorem law_bind (ds : List D) (hd : ds.length = 1) : ∀ vs : List Value, vs.length = ds.length → bindArgs lawFd ⟨vs, []⟩ = pure ([Str.ofString "script"].zip vs) := fun vs hv => by
  obtain ⟨_, rfl⟩ := len1 (hv.trans hd)
  rfl
theorem cal_law' {ns : List Int} (h : ∀ h₀ av, Ex w 30 false h₀ (lawEnv h₀) av (sg [Str.ofString "script"] [intsD ns]) none lawBody (RetD w false h₀ av (.bool true))) : Cal w 31 false (.ref 141) [intsD ns] (.bool true) := by
  obtain ⟨o, ho, hfd⟩ := law_ob (w := w)
  exact Cal.defC ho hfd law_body law_cd law_gl law_bl law_cl law_loc (law_bind _ rfl) (fun h₀ av _ => h h₀ av) rfl rfl rfl

theorem LA {h₀ : Heap} {av : List Addr} {σ : Sg} {rest : List Stmt} {x : Str} {px pos : Pos} {e : Expr} {d : D} {R : Flow → Heap → Prop} (he : Ev w av 30 false (lawEnv h₀) σ e d) (hx : Sto h₀ (lawEnv h₀) x) (h : Ex w 30 false h₀ (lawEnv h₀) av (σ.set x d) none rest R)
    (hs : swapsWith e (some (.Name x px)) pos.line (lawEnv h₀) = pure false) : Ex w 30 false h₀ (lawEnv h₀) av σ none (.Assign [.Name x px] e pos :: rest) R := Ex.assign he hx h (fun _ e => by cases e) hs
theorem LSub {h₀ : Heap} {av : List Addr} {σ : Sg} {v sl : Expr} {pos : Pos} {a i d : D} (hv : Ev w av 30 false (lawEnv h₀) σ v a) (hi : Ev w av 30 false (lawEnv h₀) σ sl i) (ht : Itm w 30 a i d) (hs : ∀ o i', subscripted sl false o i' = operate [o, i'] (getItem o i')) : Ev w av 30 false (lawEnv h₀) σ (.Subscript v sl pos) d := Ev.sub hv hi ht hs
theorem LTup {h₀ : Heap} {av : List Addr} {σ : Sg} {es : List Expr} {ds : List D} {kk : Nat} {pos : Pos} (hs : Evs w av 30 false (lawEnv h₀) σ es ds) (hz : ds.length ≤ sizeLine) : Ev w av 30 false (lawEnv h₀) σ (.Tuple es kk pos) (.tup ds) := Ev.tup hs hz
theorem LCons {h₀ : Heap} {av : List Addr} {σ : Sg} {e : Expr} {es : List Expr} {d : D} {ds : List D} (he : Ev w av 30 false (lawEnv h₀) σ e d) (hs : Evs w av 30 false (lawEnv h₀) σ es ds) (hh : starEach (e :: es) (lawEnv h₀) = (false, eval e (lawEnv h₀)) :: starEach es (lawEnv h₀)) : Evs w av 30 false (lawEnv h₀) σ (e :: es) (d :: ds) := Evs.cons he hs hh

theorem law_three {h₀ : Heap} {av : List Addr} {σ : Sg} {ns ord : List Int} {i : Int} {n : Nat} {up : Bool} (hns : ns.length ≤ 63) (hi : i = 0 ∨ i = 1 ∨ i = 2) (hord : ord ∈ orders) (hn1 : 4 ≤ n) (hn2 : n ≤ 100) (hs : σ (Str.ofString "script") = some (intsD ns)) (hsp : σ (Str.ofString "spot") = some (.int (spotOf i)))
    (hwt : σ (Str.ofString "weight") = some (.int (wtOf i))) (hup : σ (Str.ofString "up") = some (.bool up)) (hwide : σ (Str.ofString "wide") = some (.int n)) (ho : σ (Str.ofString "order") = some (.tup (ord.map .int))) :
    Ex w 30 false h₀ (lawEnv h₀) av σ none (lawBody.drop 3) (RetD w false h₀ av (.bool true)) := by
  have hz : (ns.map D.int).length ≤ sizeLine := by rw [List.length_map]; exact Nat.le_trans hns (by decide)
  have ems : intsD (msOf ns) = .list ([D.int 35309, D.int 16872, D.int 33188] ++ ((ns.drop 1).take 5).map D.int) := by unfold intsD msOf; rw [List.map_append]; rfl
  obtain ⟨hm1, hm2⟩ := ms_len ns
  refine Ex.assign (d := intsD (msOf ns)) (by
    rw [ems]
    exact Ev.bin (Ev.list (Evs.cons Ev.int (Evs.cons Ev.int (Evs.cons Ev.int .nil)))) (Ev.sliceE (cut_five ns) (Ev.name hs) Ev.int Ev.int hz) (Bin.addL (by rw [List.length_map, List.length_take]; show 3 + _ ≤ 16777216; omega))) (sto_loc rfl) ?_
  generalize msOf ns = ms at *
  clear hz ems
  have hmz : (ms.map D.int).length ≤ sizeLine := by rw [List.length_map]; exact Nat.le_trans hm2 (by decide)
  refine Ex.compS (own := none) (cl := []) (caps := []) (ds := ms.map D.int) (p := tr) (f := fR) (fun d σ => σ.set (Str.ofString "mode") d) (Lps.of (It.list (Ev.name rfl))) (by rfl) (fun _ => rfl) (fun _ => rfl) cap_nil cap_nil (hk1_of rfl) (hk2_of rfl)
    (fun av' h₁ C d _ hC => Tgt.name ⟨.inl rfl, by decide⟩ (fun _ e => by cases e)) (fun d y hy => by cases hy) (fun av' C d _ => Tsts.nil) ?_ hmz (sto_loc rfl) rfl ?_
  · intro av' C d hd _
    obtain ⟨m, hm, rfl⟩ := mem_ints hd
    show Ev _ _ _ _ _ _ _ (.str (tx (rowOf m)))
    rw [← row_join]
    exact Ev.calld at_filemode (Evs.cons (Ev.name rfl) .nil) cal_filemode
  rw [rows_eq]
  refine Ex.ifF (Tr.cmp (Ev.name rfl) ?_ (Cmp.neS (xs := rowsS ms) fun x hx => ?_)) ?_
  · rw [← rows_eq]
    refine Ev.compN [] (cl := []) tr fR (It.list (Ev.name rfl)) (by rfl) cap_nil cap_nil (fun av' C d _ => Tsts.nil) ?_ hmz
    intro av' C d hd _
    obtain ⟨m, hm, rfl⟩ := mem_ints hd
    exact Ev.calld at_row (Evs.cons (Ev.name rfl) .nil) cal_row
  · obtain ⟨m, _, rfl⟩ := List.mem_map.mp hx
    exact tx_ok m
  have wpos : 0 < wtOf i ∧ (wtOf i).natAbs.log2 < 9000 := by rcases hi with rfl | rfl | rfl <;> decide
  have hspot : spotOf i = 7 ∨ spotOf i = 4 ∨ spotOf i = 1 := by rcases hi with rfl | rfl | rfl <;> decide
  refine Ex.tupP (xs := [Str.ofString "figures", Str.ofString "shown"]) (ds := [intsD (natsI (figs ms i)), intsD (natsI (figs ms i))]) (Ev.tup (Evs.cons ?_ (Evs.cons ?_ .nil))) (sto_assign (sto_cell 5 rfl rfl) (sto_assign (sto_cell 6 rfl rfl) sto_nil)) rfl ?_
  · rw [← figs_eq hi]
    refine Ev.compN [Str.ofString "weight"] (cl := [(Str.ofString "weight", h₀.objs.size + 2)]) tr (lI fun m => Builtin.bitAnd m 4095 / wtOf i % 8) (It.list (Ev.name rfl)) (by rfl) (cap_one ⟨_, fun _ => rfl, rfl, .inl ⟨rfl, fun _ => rfl⟩⟩) (cap_one ⟨_, hwt⟩) (fun av' C d _ => Tsts.nil) ?_ hmz
    intro av' C d hd _
    obtain ⟨m, hm, rfl⟩ := mem_ints hd
    exact Ev.bin (Ev.bin (Ev.calld at_imode (Evs.cons (Ev.name rfl) .nil) cal_imode) (Ev.name hwt) (Bin.div wpos.1 wpos.2)) Ev.int (Bin.mod (by decide))
  · rw [← shown_eq hi]
    refine Ev.compN [Str.ofString "spot"] (cl := [(Str.ofString "spot", h₀.objs.size + 1)]) tr (fS (spotOf i)) (It.list (Ev.name rfl)) (by rfl) (cap_one ⟨_, fun _ => rfl, rfl, .inl ⟨rfl, fun _ => rfl⟩⟩) (cap_one ⟨_, hsp⟩) (fun av' C d _ => Tsts.nil) ?_ (by unfold rowsS; rw [List.length_map, List.length_map]; show _ ≤ 16777216; omega)
    intro av' C d hd _
    obtain ⟨x, hx, rfl⟩ := List.mem_map.mp hd
    obtain ⟨m, hm, rfl⟩ := List.mem_map.mp hx
    exact Ev.calld at_shown (Evs.cons (Ev.name rfl) (Evs.cons (Ev.name hsp) .nil)) (cal_shown (row_len m) hspot (row_128 m))
  have hfl : (figs ms i).length = ms.length := List.length_map _
  have hf8 := figs_lt ms i
  refine Ex.tupNew (x1 := Str.ofString "counts") (x2 := Str.ofString "masks") (x3 := Str.ofString "ones") (d1 := intsD (cs up (figs ms i) 0)) (d3 := .int (2 ^ n - 1)) ?_ (fun a ha => ?_) (sto_cell 7 rfl rfl) (sto_loc rfl) (sto_cell 8 rfl rfl) (by decide) (fun a ha => ?_)
  · rw [cs_zero up hf8]
    show Ev _ _ _ _ _ _ _ (.list (((rng 8).filter tr).map (lI fun k => ((natsI (figs ms i)).count k : Int))))
    refine Ev.compN [Str.ofString "figures"] (cl := [(Str.ofString "figures", h₀.objs.size + 5)]) tr (lI fun k => ((natsI (figs ms i)).count k : Int)) (It.range Ev.int (by decide) boot_range no_range) (by rfl) (cap_one ⟨_, fun _ => rfl, rfl, .inl ⟨rfl, fun _ => rfl⟩⟩) (cap_one ⟨_, rfl⟩) (fun av' C d _ => Tsts.nil) ?_ (by show 8 ≤ 16777216; decide)
    intro av' C d hd _
    obtain ⟨k, hk, rfl⟩ : ∃ k : Nat, k < 8 ∧ d = .int k := by
      obtain ⟨k, hk, rfl⟩ := List.mem_map.mp hd
      exact ⟨k, List.mem_range.mp hk, rfl⟩
    exact Ev.meth1 (Ev.name rfl) (Ev.name rfl) Get.count Cal.count
  · exact Ev.bin (Ev.bin Ev.int (Ev.name hwide) (Bin.pow (Int.natCast_nonneg _) (cast_le6 (Nat.le_trans hn2 (by decide))) (by decide))) Ev.int Bin.sub
  · exact law_masks ha hn1 hn2 hord hf8 (by rw [hfl]; exact hm2) (by rw [hfl]; exact Nat.le_trans (by decide) hm1) hfl.symm ⟨rfl, ho, hup, hwide, rfl, rfl, rfl, rfl⟩

theorem law_two {h₀ : Heap} {av : List Addr} {σ : Sg} {ns : List Int} {F : Int} {n : Nat} {up : Bool} (hns : ns.length ≤ 63) (hs : σ (Str.ofString "script") = some (intsD ns)) (hF : σ (Str.ofString "first") = some (.int F)) (hsp : σ (Str.ofString "spot") = some (.int (spotOf (F % 3)))) (hwt : σ (Str.ofString "weight") = some (.int (wtOf (F % 3)))) (hup : σ (Str.ofString "up") = some (.bool up)) (hwide : σ (Str.ofString "wide") = some (.int n)) (hn1 : 4 ≤ n) (hn2 : n ≤ 100) :
    Ex w 30 false h₀ (lawEnv h₀) av σ none (lawBody.drop 2) (RetD w false h₀ av (.bool true)) := by
  have hj : F / 3 % 6 = 0 ∨ F / 3 % 6 = 1 ∨ F / 3 % 6 = 2 ∨ F / 3 % 6 = 3 ∨ F / 3 % 6 = 4 ∨ F / 3 % 6 = 5 := mod6 _
  refine LA (d := .tup ((ordOf (F / 3 % 6)).map .int)) ?_ ?_ ?_ ?_
  · refine LSub (a := .tup [.tup [.int 1, .int 2, .int 4], .tup [.int 1, .int 4, .int 2], .tup [.int 2, .int 1, .int 4], .tup [.int 2, .int 4, .int 1], .tup [.int 4, .int 1, .int 2], .tup [.int 4, .int 2, .int 1]]) (i := .int (F / 3 % 6)) ?_ ?_ ?_ ?_
    · refine LTup ?_ ?_
      · refine LCons ?_ ?_ ?_
        · exact Ev.tup (Evs.cons Ev.int (Evs.cons Ev.int (Evs.cons Ev.int .nil)))
        · refine LCons ?_ ?_ ?_
          · exact Ev.tup (Evs.cons Ev.int (Evs.cons Ev.int (Evs.cons Ev.int .nil)))
          · refine LCons ?_ ?_ ?_
            · exact Ev.tup (Evs.cons Ev.int (Evs.cons Ev.int (Evs.cons Ev.int .nil)))
            · refine LCons ?_ ?_ ?_
              · exact Ev.tup (Evs.cons Ev.int (Evs.cons Ev.int (Evs.cons Ev.int .nil)))
              · refine LCons ?_ ?_ ?_
                · exact Ev.tup (Evs.cons Ev.int (Evs.cons Ev.int (Evs.cons Ev.int .nil)))
                · refine LCons ?_ ?_ ?_
                  · exact Ev.tup (Evs.cons Ev.int (Evs.cons Ev.int (Evs.cons Ev.int .nil)))
                  · exact Evs.nil
                  · rfl
                · rfl
              · rfl
            · rfl
          · rfl
        · rfl
      · show 6 ≤ 16777216; decide
    · exact Ev.bin (Ev.bin (Ev.name hF) Ev.int (Bin.div (by decide) (by decide))) Ev.int (Bin.mod (by decide))
    · refine Itm.tup (Int.emod_nonneg _ (by decide)) ?_ (mod_lt63 _ (by decide) (by decide))
      rcases hj with h | h | h | h | h | h <;> rw [h] <;> rfl
    · intro _ _; rfl
  · exact sto_loc rfl
  · exact law_three hns (mod3 F) (by rcases hj with h | h | h | h | h | h <;> rw [h] <;> decide) hn1 hn2 hs hsp hwt hup hwide rfl
  · rfl
theorem law_walk {h₀ : Heap} {av : List Addr} {ns : List Int} (hns : ns.length ≤ 63) : Ex w 30 false h₀ (lawEnv h₀) av (sg [Str.ofString "script"] [intsD ns]) none lawBody (RetD w false h₀ av (.bool true)) := by
  have hz : (ns.map D.int).length ≤ sizeLine := by rw [List.length_map]; exact Nat.le_trans hns (by decide)
  refine Ex.assign (d := .int (ns.take 1).sum) (Ev.calb boot_sum (Evs.cons (Ev.sliceE (cut_first ns) (Ev.name rfl) trivial Ev.int hz) .nil) Cal.sum) (sto_loc rfl) ?_
  generalize (ns.take 1).sum = F
  have hi := mod3 F
  obtain ⟨n, en, hn1, hn2⟩ := wide_ok F
  have ew : (8 : Int) ^ (F % 3).toNat = wtOf (F % 3) := by rcases hi with h | h | h <;> rw [h] <;> rfl
  refine Ex.tupP (xs := [Str.ofString "spot", Str.ofString "weight", Str.ofString "up", Str.ofString "wide"]) (ds := [.int (spotOf (F % 3)), .int (wtOf (F % 3)), .bool (F / 18 % 2 == 0), .int n])
    (Ev.tup (Evs.cons (Ev.sub (Ev.tup (Evs.cons Ev.int (Evs.cons Ev.int (Evs.cons Ev.int .nil)))) (Ev.bin (Ev.name rfl) Ev.int (Bin.mod (by decide))) (Itm.tup (Int.emod_nonneg _ (by decide)) ?_ (mod_lt63 _ (by decide) (by decide)))) (Evs.cons ?_ (Evs.cons (Ev.cmp (Ev.bin (Ev.bin (Ev.name rfl) Ev.int (Bin.div (by decide) (by decide))) Ev.int (Bin.mod (by decide))) Ev.int Cmp.eqI) (Evs.cons ?_ .nil)))))
    (sto_assign (sto_cell 1 rfl rfl) (sto_assign (sto_cell 2 rfl rfl) (sto_assign (sto_cell 3 rfl rfl) (sto_assign (sto_cell 4 rfl rfl) sto_nil)))) rfl ?_
  · rcases hi with h | h | h <;> rw [h] <;> rfl
  · rw [← ew]
    exact Ev.bin Ev.int (Ev.bin (Ev.name rfl) Ev.int (Bin.mod (by decide))) (Bin.pow (Int.emod_nonneg _ (by decide)) (mod_le6 _ (by decide) (by decide)) (by decide))
  · rw [← en]
    exact Ev.bin Ev.int (Ev.bin (Ev.bin (Ev.name rfl) Ev.int (Bin.div (by decide) (by decide))) Ev.int (Bin.mod (by decide))) Bin.add
  refine @law_two w h₀ av _ ns F n (F / 18 % 2 == 0) ?_ ?_ ?_ ?_ ?_ ?_ ?_ ?_ ?_
  · exact hns
  · rfl
  · rfl
  · rfl
  · rfl
  · rfl
  · rfl
  · exact hn1
  · exact hn2
theorem cal_law {ns : List Int} (hns : ns.length ≤ 63) : Cal w 31 false (.ref 141) [intsD ns] (.bool true) := cal_law' fun h₀ av => law_walk hns
end
end Mine

set_option maxRecDepth 100000
set_option maxHeartbeats 8000000
namespace Mine
theorem law_gd {w : World} {h : Heap} {p : Program} {loose : List Str} {mean : ExcName → Option Value} {mg mb : Str → Option Value} (KX : (hd.heap_39 w.params).In h) (T : Top p loose mean mg mb h) (hT9 : TabsAt [(41, 37), (34, 30)] h) : Gd ⟨w, []⟩ h where
  kx := fun a o e => by cases e
  X := KX
  g := ⟨mg, T.g⟩
  ns := ⟨mb, T.b, T.builtins⟩
  lim := T.nolimit
  bm := by
    obtain ⟨bm, ob, h1, _, h2, h3, h4, h5⟩ := T.bmain
    have e : mg "__builtins__" = some (.ref 4) := mg_of KX T.g (by rfl)
    rw [e] at h1; cases h1
    exact ⟨ob, h2, h3, h4, h5⟩
  t1 := .inl (hT9 (34, 30) (.tail _ (.head _))).2
  t2 := .inl (hT9 (41, 37) (.head _)).2

theorem tab_grown {h : Heap} {P l c : Nat} {q : Str} (t : TabOk h P l c q) : ∃ ps, h.get? P = some (tabObj ps) := let ⟨ps, e, _⟩ := t.fields; ⟨ps, e⟩

theorem law_fin {w : World} {s₁ : Shared} {p : Program} {loose : List Str} {mean mean' : ExcName → Option Value} {cl : Str → Option Addr} {mg mb : Str → Option Value} (KX : (hd.heap_39 w.params).In s₁.heap) (T : Top p loose mean mg mb s₁.heap) (hT9 : TabsAt [(41, 37), (34, 30)] s₁.heap) (hg : s₁.gens = #[])
    {fa : Addr} (hmg : mg (Str.ofString "law") = some (.ref fa)) {a : Addr} {ns : List Int} {items : List Value} (hL : s₁.heap.IsList a items.toArray) (hI : IntsAre items ns) (w1 : Well w.params s₁.heap (.ref a) (ofPy (.list (ns.map .int)))) (hn : ¬ ((63 : Int) < (ns.length : Int))) :
    wpAny (model PP w) callerA (call (.ref fa) [.ref a]) (fun v s' => GoodWG PySem.Challenge.rw_op0110_01.row.claim cl mean' [ofPy (.list (ns.map .int))] s₁ (.ok (.ret v)) s') (fun e s' => GoodWG PySem.Challenge.rw_op0110_01.row.claim cl mean' [ofPy (.list (ns.map .int))] s₁ (.error e) s') s₁ := by
  have g := law_gd KX T hT9
  have e : mg (Str.ofString "law") = some (.ref 141) := mg_of KX T.g (by rfl)
  rw [e] at hmg; cases hmg
  have hl : IsL s₁.heap a items.toArray 0 := by
    rw [ofPy] at w1
    cases w1 with | list h1 _ =>
    obtain ⟨o, e1, _, n, e2⟩ := hL
    rw [h1] at e1; cases e1
    cases e2
    exact h1
  refine cal_law (w := ⟨w, []⟩) (ns := ns) (by omega) [] callerA s₁ _ _ [.ref a] ⟨rfl, by decide +kernel, by decide +kernel⟩ ⟨g, (fun _ h => by cases h), fun _ h => by cases h⟩ (.cons (.list (by intro h; cases h) hl (reps_of_ints hI)) .nil) fun y s' ry k => ?_
  obtain ⟨h', tk, rfl, x⟩ := k
  cases ry
  have g' := x.gd g
  have grown : ∀ b, b = 30 ∨ b = 37 → isCodeTable s₁.heap b ∧ s₁.heap.get? b = some (tabObj #[]) ∧ ∃ ps, h'.get? b = some (tabObj ps) := fun b hb => by
    rcases hb with rfl | rfl
    · have t := hT9 (34, 30) (.tail _ (.head _))
      exact ⟨(t.1.tab t.2).isCodeTable, t.2, tab_grown g'.t1⟩
    · have t := hT9 (41, 37) (.head _)
      exact ⟨(t.1.tab t.2).isCodeTable, t.2, tab_grown g'.t2⟩
  refine ⟨.inl ⟨.bool true, .bool true, [], rfl, fun _ => rfl, .bool true, ?_, fun _ => ⟨.nil, fun _ h => by cases h⟩⟩, ⟨fun b o e => ?_, fun b o e => ?_⟩, rfl, .of_eq hg⟩
  · wrow_post
  · by_cases hb : b = 30 ∨ b = 37
    · obtain ⟨t1, t2, ps, t3⟩ := grown b hb
      rw [t2] at e; cases e
      exact .inr (.inl ⟨t1, rfl, #[], ps, rfl, by rw [Array.empty_append]; exact t3⟩)
    · exact .inl (x.keep b o (.inr ⟨fun h => hb (.inl h), fun h => hb (.inr h)⟩) e)
  · by_cases hb : b = 30 ∨ b = 37
    · obtain ⟨_, _, ps, t3⟩ := grown b hb
      exact ⟨_, t3⟩
    · exact ⟨o, x.keep b o (.inr ⟨fun h => hb (.inl h), fun h => hb (.inr h)⟩) e⟩
end Mine
theorem PySem.Challenge.cw_op0110_01_holds : PySem.Challenge.rw_op0110_01.Holds :=
  Mine.hd (by
  k_fill
  intro w s₀ s₁ mg mb G Y fa o pm cd doc dV kV ho hd hcd hD hmg hg args vals as hpre hlay hrd hwl hlo
  have KX := km_in_of Y
  km_tabs Y
  have X := (Ground.X G).1
  have V := (Ground.X G).2
  refine Ground.open G ?_
  intro T B D TE TW
  try (refine guard_noD D (by decide +kernel) ?_; clear D)
  km_lay T hmg ho hd cd
  wrow_args hpre hlay hrd hwl hlo
  all_goals (
    rename_i hL _ w1 _ hI _ hn _
    exact Mine.law_fin KX T hT9 hg hmg hL hI w1 hn))
