import PyProof.Rows.All
import Wide.All
import Open.Line
import Lean
import PySem.Challenge.RW_ph0060_01
open PySem PySem.W PyProof.Rows
set_option Elab.async false

-- part MBase
section

open PySem PySem.W PyProof.Rows
set_option linter.unusedVariables false
set_option maxRecDepth 100000
namespace Mine

/-- a frozen view of the heap: what no later step changes -/
noncomputable abbrev Gh := Addr → Option Obj

/-- plain data -/
inductive D where
  | none
  | bool (b : Bool)
  | int (i : Int)
  | str (s : Str)
  | list (xs : List D)
  | tuple (xs : List D)
  | rng (n : Nat)
  | xlist (xs : List D)
  | sset (xs : List Str)
  | mlist (xs : List D)
  | unset

noncomputable abbrev listO (vs : List Value) (n : Nat) : Obj := ⟨.type "list", Option.none, .seq vs.toArray n, #[]⟩
noncomputable abbrev tupO (vs : List Value) (n : Nat) : Obj := ⟨.type "tuple", Option.none, .seq vs.toArray n, #[]⟩
noncomputable abbrev rngO (a b c : Int) (t u v : Tok) : Obj := ⟨.type "range", Option.none, .fields #[.int a t, .int b u, .int c v], #[]⟩

mutual
inductive Rd (g : Gh) : Value → D → Prop
  | none : Rd g Value.none D.none
  | bool (b : Bool) : Rd g (.bool b) (.bool b)
  | int (i : Int) (t : Tok) : Rd g (.int i t) (.int i)
  | str (x : Str) (t : Tok) : Rd g (.str x t) (.str x)
  | list {a : Addr} {vs : List Value} {n : Nat} {ds : List D} : g a = some (listO vs n) → RdL g vs ds → Rd g (.ref a) (.list ds)
  | tuple {a : Addr} {vs : List Value} {n : Nat} {ds : List D} : g a = some (tupO vs n) → RdL g vs ds → Rd g (.ref a) (.tuple ds)
  | rng {a : Addr} {n : Nat} {t u v : Tok} : g a = some (rngO 0 n 1 t u v) → Rd g (.ref a) (.rng n)
  | xlist {a : Addr} {o : Obj} {vs : List Value} {n : Nat} {ds : List D} : g a = some o → o.cls = .type "list" → o.data = .seq vs.toArray n → RdL g vs ds → Rd g (.ref a) (.xlist ds)
inductive RdL (g : Gh) : List Value → List D → Prop
  | nil : RdL g [] []
  | cons {v : Value} {d : D} {vs : List Value} {ds : List D} : Rd g v d → RdL g vs ds → RdL g (v :: vs) (d :: ds)
end

mutual
theorem Rd.mono {g g' : Gh} (k : ∀ a o, g a = some o → g' a = some o) : ∀ {v : Value} {d : D}, Rd g v d → Rd g' v d
  | _, _, .none => .none
  | _, _, .bool b => .bool b
  | _, _, .int i t => .int i t
  | _, _, .str x t => .str x t
  | _, _, .list h hs => .list (k _ _ h) (RdL.mono k hs)
  | _, _, .tuple h hs => .tuple (k _ _ h) (RdL.mono k hs)
  | _, _, .rng h => .rng (k _ _ h)
  | _, _, .xlist h hc hd hs => .xlist (k _ _ h) hc hd (RdL.mono k hs)
theorem RdL.mono {g g' : Gh} (k : ∀ a o, g a = some o → g' a = some o) : ∀ {vs : List Value} {ds : List D}, RdL g vs ds → RdL g' vs ds
  | _, _, .nil => .nil
  | _, _, .cons h hs => .cons (Rd.mono k h) (RdL.mono k hs)
end

theorem RdL.length {g : Gh} : ∀ {vs : List Value} {ds : List D}, RdL g vs ds → vs.length = ds.length
  | _, _, .nil => rfl
  | _, _, .cons _ hs => by rw [List.length_cons, List.length_cons, hs.length]
theorem RdL.append {g : Gh} : ∀ {vs : List Value} {ds : List D} {ws : List Value} {es : List D}, RdL g vs ds → RdL g ws es → RdL g (vs ++ ws) (ds ++ es)
  | _, _, _, _, .nil, h => h
  | _, _, _, _, .cons h hs, h' => .cons h (hs.append h')
theorem RdL.take {g : Gh} : ∀ {vs : List Value} {ds : List D} (n : Nat), RdL g vs ds → RdL g (vs.take n) (ds.take n)
  | _, _, 0, _ => by simpa using RdL.nil
  | _, _, n + 1, .nil => by simpa using RdL.nil
  | _, _, n + 1, .cons h hs => by simpa using RdL.cons h (hs.take n)
theorem RdL.drop {g : Gh} : ∀ {vs : List Value} {ds : List D} (n : Nat), RdL g vs ds → RdL g (vs.drop n) (ds.drop n)
  | _, _, 0, h => by simpa using h
  | _, _, n + 1, .nil => by simpa using RdL.nil
  | _, _, n + 1, .cons h hs => by simpa using hs.drop n
theorem RdL.get {g : Gh} : ∀ {vs : List Value} {ds : List D}, RdL g vs ds → ∀ {i : Nat} {d : D}, ds[i]? = some d → ∃ v, vs[i]? = some v ∧ Rd g v d
  | _, _, .nil, i, d, e => by simp at e
  | _, _, .cons h hs, 0, d, e => by simp at e; subst e; exact ⟨_, rfl, h⟩
  | _, _, .cons h hs, i + 1, d, e => by simpa using hs.get (i := i) (by simpa using e)
theorem get?_none_of_size {h : Heap} {n : Addr} (hn : h.objs.size ≤ n) : h.get? n = none := by
  cases e : h.get? n with
  | none => rfl
  | some o => exact absurd (Heap.lt_size e) (Nat.not_lt.mpr hn)

/-- from (s, g) to (s', g'): all objects stay, the frozen view grows by new objects alone -/
structure Grow (s : Shared) (g : Gh) (s' : Shared) (g' : Gh) : Prop where
  keep : ∀ a o, s.heap.get? a = some o → s'.heap.get? a = some o
  old : ∀ a o, s.heap.get? a = some o → g' a = g a
  sub : ∀ a o, g' a = some o → s'.heap.get? a = some o
  os : s'.os = s.os
  gens : ∀ (i : Nat) (st : GenState), s.gens[i]? = some st → s'.gens[i]? = some st
  bare : ∀ (i : Nat) (st : GenState), s'.gens[i]? = some st → s.gens[i]? = some st ∨ st = .finished

theorem Grow.refl {s : Shared} {g : Gh} (h : ∀ a o, g a = some o → s.heap.get? a = some o) : Grow s g s g :=
  ⟨fun _ _ e => e, fun _ _ _ => rfl, h, rfl, fun _ _ e => e, fun _ _ e => .inl e⟩
theorem Grow.trans {s s' s'' : Shared} {g g' g'' : Gh} (x : Grow s g s' g') (y : Grow s' g' s'' g'') : Grow s g s'' g'' :=
  ⟨fun a o e => y.keep a o (x.keep a o e), fun a o h => (y.old a o (x.keep a o h)).trans (x.old a o h), y.sub, y.os.trans x.os,
   fun i st e => y.gens i st (x.gens i st e), fun i st e => (y.bare i st e).elim (fun h => x.bare i st h) .inr⟩
theorem Grow.le {s s' : Shared} {g g' : Gh} (x : Grow s g s' g') (h : ∀ a o, g a = some o → s.heap.get? a = some o) : ∀ a o, g a = some o → g' a = some o :=
  fun a o e => (x.old a o (h a o e)).trans e
theorem Grow.toks {s : Shared} {g : Gh} (h : ∀ a o, g a = some o → s.heap.get? a = some o) (tk : Nat) : Grow s g { s with toks := tk } g :=
  ⟨fun _ _ e => e, fun _ _ _ => rfl, h, rfl, fun _ _ e => e, fun _ _ e => .inl e⟩

/-- the view with one new object -/
noncomputable def Gh.add (g : Gh) (n : Addr) (o : Obj) : Gh := fun a => if a = n then some o else g a
theorem Gh.add_self (g : Gh) (n : Addr) (o : Obj) : g.add n o n = some o := by simp [Gh.add]
theorem Gh.add_other {g : Gh} {n a : Addr} {o : Obj} (h : a ≠ n) : g.add n o a = g a := by simp [Gh.add, h]
theorem ne_of_get {h : Heap} {a n : Addr} {o : Obj} (e : h.get? a = some o) (hn : h.get? n = none) : a ≠ n := fun q => by rw [q, hn] at e; cases e
theorem Gh.add_le {s : Shared} {g : Gh} (h : ∀ a o, g a = some o → s.heap.get? a = some o) {m : Addr} (hm : s.heap.get? m = none) (o : Obj) : ∀ a o', g a = some o' → g.add m o a = some o' :=
  fun a o' e => by rw [Gh.add_other (ne_of_get (h a o' e) hm)]; exact e

/-- a heap that keeps s's objects and has o at the new address n -/
theorem Grow.add {s s' : Shared} {g : Gh} {n : Addr} {o : Obj} (h : ∀ a o, g a = some o → s.heap.get? a = some o)
    (hk : ∀ a o, s.heap.get? a = some o → s'.heap.get? a = some o) (hn : s.heap.get? n = none) (ho : s'.heap.get? n = some o)
    (hos : s'.os = s.os) (hg : s'.gens = s.gens) : Grow s g s' (g.add n o) :=
  ⟨hk, fun a _ ha => Gh.add_other (ne_of_get ha hn), fun a o' e => by
    by_cases ha : a = n
    · subst ha; rw [Gh.add_self] at e; cases e; exact ho
    · rw [Gh.add_other ha] at e; exact hk _ _ (h _ _ e), hos, fun i st e => by rw [hg]; exact e, fun i st e => .inl (by rw [hg] at e; exact e)⟩
/-- a heap that keeps s's objects -/
theorem Grow.kept {s s' : Shared} {g : Gh} (h : ∀ a o, g a = some o → s.heap.get? a = some o)
    (hk : ∀ a o, s.heap.get? a = some o → s'.heap.get? a = some o)
    (hos : s'.os = s.os) (hg : s'.gens = s.gens) : Grow s g s' g :=
  ⟨hk, fun _ _ _ => rfl, fun a o e => hk _ _ (h _ _ e), hos, fun i st e => by rw [hg]; exact e, fun i st e => .inl (by rw [hg] at e; exact e)⟩
theorem Grow.push {s : Shared} {g : Gh} (h : ∀ a o, g a = some o → s.heap.get? a = some o) (o : Obj) (ho : o.isFreed = false) (tk : Nat) :
    Grow s g { s with heap := s.heap.push o, toks := tk } (g.add s.heap.objs.size o) :=
  Grow.add h (fun _ _ e => Heap.get?_push_of_some o e) (get?_none_of_size (Nat.le_refl _)) (Heap.get?_push_size _ ho) rfl rfl

theorem list_one {α : Type} : ∀ l : List α, l.length = 1 → ∃ e, l = [e]
  | [e], _ => ⟨e, rfl⟩
theorem list_two {α : Type} : ∀ l : List α, l.length = 2 → ∃ e f, l = [e, f]
  | [e, f], _ => ⟨e, f, rfl⟩
theorem list_three {α : Type} : ∀ l : List α, l.length = 3 → ∃ e f g, l = [e, f, g]
  | [e, f, g], _ => ⟨e, f, g, rfl⟩
theorem arr_one {α : Type} (a : Array α) (h : a.size = 1) : ∃ e, a = #[e] := by
  obtain ⟨l⟩ := a
  obtain ⟨e, rfl⟩ := list_one l h
  exact ⟨e, rfl⟩
end Mine
end

-- part MEval
section

open PySem PySem.W PyProof.Rows
set_option linter.unusedVariables false
set_option maxRecDepth 100000
namespace Mine

structure Wf (h₁ : Heap) (s : Shared) (g : Gh) : Prop where
  sub : ∀ a o, g a = some o → s.heap.get? a = some o
  base : ∀ a o, h₁.get? a = some o → g a = some o

section
variable {h₁ : Heap} {s s' : Shared} {g g' : Gh}
theorem Wf.grow (W : Wf h₁ s g) (x : Grow s g s' g') : Wf h₁ s' g' := ⟨x.sub, fun a o e => x.le W.sub a o (W.base a o e)⟩
theorem Wf.keep1 (W : Wf h₁ s g) : ∀ a o, h₁.get? a = some o → s.heap.get? a = some o := fun a o e => W.sub a o (W.base a o e)
end

/-- what the head gives of the base heap -/
structure Bs (h₁ : Heap) (mg mb : Str → Option Value) : Prop where
  g : h₁.Ns mainGlobals mg
  b : h₁.Ns builtinsNs mb
  nolimit : h₁.NoLimit

structure Room (n : Nat) (A : Around) : Prop where
  handled : A.handled = none
  depth : A.depth + n ≤ 600
  units : A.units + 10 * n ≤ 5000
theorem Room.deeper {n : Nat} {A : Around} (r : Room (n + 1) A) (env : Env) : Room n (A.deeper env) :=
  ⟨r.handled, by have := r.depth; show A.depth + 1 + n ≤ 600; omega, by have := r.units; show A.units + 3 + 10 * n ≤ 5000; omega⟩
theorem Room.less {n m : Nat} {A : Around} (r : Room n A) (h : m ≤ n) : Room m A :=
  ⟨r.handled, by have := r.depth; omega, by have := r.units; omega⟩
theorem Room.units_lt {n : Nat} {A : Around} (r : Room n A) : A.units < cLine := by have := r.units; have h : cLine = 9900 := rfl; omega
theorem Room.depth_lt {n : Nat} {A : Around} (r : Room n A) : A.depth < recursionLimit := by have := r.depth; have h : recursionLimit = 1000 := rfl; omega

noncomputable def HasVal (env : Env) (m : Str → Option Value) (h : Heap) (x : Str) (v : Value) : Prop :=
  (env.kindOf x = some .local ∧ m x = some v) ∨
  ((env.kindOf x = some .cell ∨ env.kindOf x = some .free) ∧ ∃ c, env.cells.lookup x = some c ∧ h.IsCell c (some v))

/-- a frame's surroundings: the state at its start, what else must stay -/
structure Fx where
  s₀ : Shared
  g₀ : Gh
  K : Gh
  Kg : Nat → Option GenState
  Gp : Gh

noncomputable def Bnd (F : Fx) (g : Gh) (h : Heap) (v : Value) : D → Prop
  | .mlist xs => ∃ (a : Addr) (vs : List Value) (n : Nat), v = .ref a ∧ (F.s₀.heap.get? a = none ∧ F.K a = none) ∧ g a = none ∧ h.get? a = some (listO vs n) ∧ RdL g vs xs
  | .unset => True
  | d => Rd g v d

theorem Bnd.of_rd {b : Fx} {g : Gh} {h : Heap} {v : Value} {d : D} (x : Rd g v d) : Bnd b g h v d := by
  cases x <;> first | exact .none | exact .bool _ | exact .int _ _ | exact .str _ _ | (rename_i h1 h2; exact .list h1 h2) | (rename_i h1 h2; exact .tuple h1 h2) | (rename_i h1; exact .rng h1) | (rename_i h1 h2 h3 h4; exact .xlist h1 h2 h3 h4)
theorem Bnd.rd {b : Fx} {g : Gh} {h : Heap} {v : Value} {d : D} (x : Bnd b g h v d) (hd : ∀ xs, d ≠ .mlist xs) (hu : d ≠ .unset) : Rd g v d := by
  cases d <;> first | exact x | exact absurd rfl (hd _) | exact absurd rfl hu

structure Inv (h₁ : Heap) (env : Env) (σ : List (Str × D)) (F : Fx) (s : Shared) (g : Gh) : Prop where
  wf : Wf h₁ s g
  grow : Grow F.s₀ F.g₀ s g
  prot : ∀ a o, F.K a = some o → s.heap.get? a = some o
  protG : ∀ (i : Nat) (st : GenState), F.Kg i = some st → s.gens[i]? = some st
  protF : ∀ a o, F.Gp a = some o → g a = some o
  protN : ∀ a o, F.K a = some o → g a = none
  fn : env.scope.kind = .function
  gl : env.globals = mainGlobals
  bl : env.builtins = builtinsNs
  loc0 : F.s₀.heap.get? env.locals = none ∧ F.K env.locals = none
  locG : g env.locals = none
  cellG : ∀ x c, env.cells.lookup x = some c → g c = none ∧ ∃ v, s.heap.IsCell c v
  cellInj : ∀ x y c, env.cells.lookup x = some c → env.cells.lookup y = some c → x = y
  nodup : (σ.map (·.1)).Nodup
  vals : ∃ (m : Str → Option Value) (ρ : Str → Value), s.heap.Ns env.locals m ∧
    (∀ x d, (x, d) ∈ σ → (d ≠ .unset → HasVal env m s.heap x (ρ x)) ∧ Bnd F g s.heap (ρ x) d) ∧
    (∀ x y xs ys, (x, D.mlist xs) ∈ σ → (y, D.mlist ys) ∈ σ → x ≠ y → ρ x ≠ ρ y)

theorem HasVal.keep {env : Env} {m : Str → Option Value} {h h' : Heap} {x : Str} {v : Value} (H : HasVal env m h x v) (k : ∀ a o, h.get? a = some o → h'.get? a = some o) : HasVal env m h' x v :=
  H.imp id fun ⟨hk, c, hc, hv⟩ => ⟨hk, c, hc, hv.keeps k⟩

theorem Bnd.grow {b : Fx} {s s' : Shared} {g g' : Gh} {v : Value} {d : D} (x : Bnd b g s.heap v d) (hs : ∀ a o, g a = some o → s.heap.get? a = some o) (y : Grow s g s' g') : Bnd b g' s'.heap v d := by
  cases d with
  | mlist xs =>
    obtain ⟨a, vs, n, rfl, hb, hg, ho, hr⟩ := x
    exact ⟨a, vs, n, rfl, hb, (y.old a _ ho).trans hg, y.keep _ _ ho, hr.mono (y.le hs)⟩
  | unset => trivial
  | _ => exact Rd.mono (y.le hs) x

theorem Inv.grow' {h₁ : Heap} {env : Env} {σ : List (Str × D)} {F : Fx} {s s' : Shared} {g g' : Gh} (I : Inv h₁ env σ F s g) (y : Grow s g s' g') : Inv h₁ env σ F s' g' := by
  obtain ⟨m, ρ, hn, hv, hm⟩ := I.vals
  exact {
    wf := I.wf.grow y, grow := I.grow.trans y, prot := fun a o e => y.keep a o (I.prot a o e), protG := fun i st e => y.gens i st (I.protG i st e), protF := fun a o e => y.le I.wf.sub a o (I.protF a o e), protN := fun a o e => (y.old a o (I.prot a o e)).trans (I.protN a o e), fn := I.fn, gl := I.gl, bl := I.bl, loc0 := I.loc0
    locG := (let ⟨_, _, _, ho, _⟩ := hn; y.old _ _ ho).trans I.locG
    cellG := fun x c e => let ⟨h1, v, h2⟩ := I.cellG x c e; ⟨(let ⟨_, ho, _⟩ := h2; y.old _ _ ho).trans h1, v, h2.keeps y.keep⟩
    cellInj := I.cellInj
    nodup := I.nodup
    vals := ⟨m, ρ, hn.keeps y.keep, fun x d hx => ⟨fun hu => ((hv x d hx).1 hu).keep y.keep, (hv x d hx).2.grow I.wf.sub y⟩, hm⟩ }

/-- forget what is known of some names -/
inductive Weak : List (Str × D) → List (Str × D) → Prop
  | nil : Weak [] []
  | same {p : Str × D} {r r' : List (Str × D)} : Weak r r' → Weak (p :: r) (p :: r')
  | drop {x : Str} {d : D} {r r' : List (Str × D)} : Weak r r' → Weak ((x, d) :: r) ((x, .unset) :: r')
theorem Weak.names {σ σ' : List (Str × D)} (h : Weak σ σ') : σ'.map (·.1) = σ.map (·.1) := by
  induction h with
  | nil => rfl
  | same _ ih => simp only [List.map_cons, ih]
  | drop _ ih => simp only [List.map_cons, ih]
theorem Weak.mem {σ σ' : List (Str × D)} (h : Weak σ σ') : ∀ x d, (x, d) ∈ σ' → (x, d) ∈ σ ∨ d = .unset := by
  induction h with
  | nil => intro x d h; cases h
  | same _ ih => intro x d h; rcases List.mem_cons.mp h with rfl | h; exact .inl (.head _); exact (ih x d h).imp (.tail _) id
  | drop _ ih => intro x d h; rcases List.mem_cons.mp h with h | h; (cases h; exact .inr rfl); exact (ih x d h).imp (.tail _) id
theorem Inv.weak {h₁ : Heap} {env : Env} {σ σ' : List (Str × D)} {F : Fx} {s : Shared} {g : Gh} (I : Inv h₁ env σ F s g) (h : Weak σ σ') : Inv h₁ env σ' F s g := by
  obtain ⟨m, ρ, hn, hv, hm⟩ := I.vals
  exact { I with
    nodup := by rw [h.names]; exact I.nodup
    vals := ⟨m, ρ, hn, fun x d hx => by
      rcases h.mem x d hx with h' | rfl
      · exact hv x d h'
      · exact ⟨fun q => absurd rfl q, trivial⟩, fun x y xs ys hx hy => hm x y xs ys ((h.mem _ _ hx).resolve_right (by intro q; cases q)) ((h.mem _ _ hy).resolve_right (by intro q; cases q))⟩ }

/-- the result d, the heap grown -/
noncomputable abbrev Out (s : Shared) (g : Gh) (d : D) : Value → Shared → Prop := fun v s' => ∃ g', Grow s g s' g' ∧ Rd g' v d
noncomputable abbrev OutL (s : Shared) (g : Gh) (ds : List D) : List Value → Shared → Prop := fun vs s' => ∃ g', Grow s g s' g' ∧ RdL g' vs ds
noncomputable abbrev OutB (s : Shared) (g : Gh) (b : Bool) : Bool → Shared → Prop := fun r s' => r = b ∧ ∃ g', Grow s g s' g'

section
variable (prog : Program) (w : World) (h₁ : Heap)

noncomputable def EvE (n : Nat) (sc : Scope) (σ : List (Str × D)) (e : Expr) (d : D) : Prop :=
  ∀ (A : Around) (E : Value → Shared → Prop) (env : Env) (F : Fx) (s : Shared) (g : Gh), Room n A → env.scope = sc → Inv h₁ env σ F s g →
    wpAny (model prog w) A (eval e env) (Out s g d) E s
noncomputable def EvB (n : Nat) (sc : Scope) (σ : List (Str × D)) (e : Expr) (b : Bool) : Prop :=
  ∀ (A : Around) (E : Value → Shared → Prop) (env : Env) (F : Fx) (s : Shared) (g : Gh), Room n A → env.scope = sc → Inv h₁ env σ F s g →
    wpAny (model prog w) A (isTrue e env (eval e env)) (OutB s g b) E s
noncomputable def EvL (n : Nat) (sc : Scope) (σ : List (Str × D)) (es : List Expr) (ds : List D) : Prop :=
  ∀ (A : Around) (E : Value → Shared → Prop) (env : Env) (F : Fx) (s : Shared) (g : Gh) (pos : Pos), Room n A → env.scope = sc → Inv h₁ env σ F s g →
    wpAny (model prog w) A (spliced (backTo pos (starEach es env))) (OutL s g ds) E s
/-- a step on values -/
noncomputable def OpE (op : Operator) (d₁ d₂ d : D) : Prop :=
  ∀ (A : Around) (E : Value → Shared → Prop) (s : Shared) (g : Gh) (v₁ v₂ : Value), Room 0 A → Wf h₁ s g → Rd g v₁ d₁ → Rd g v₂ d₂ →
    wpAny (model prog w) A (binaryOp op v₁ v₂) (Out s g d) E s
noncomputable def CmpE (op : CmpOp) (d₁ d₂ : D) (b : Bool) : Prop :=
  ∀ (A : Around) (E : Value → Shared → Prop) (s : Shared) (g : Gh) (v₁ v₂ : Value), Room 0 A → Wf h₁ s g → Rd g v₁ d₁ → Rd g v₂ d₂ →
    wpAny (model prog w) A (compareOp op v₁ v₂) (fun v s' => v = .bool b ∧ ∃ g', Grow s g s' g') E s
noncomputable def TruE (d : D) (b : Bool) : Prop :=
  ∀ (A : Around) (E : Value → Shared → Prop) (s : Shared) (g : Gh) (v : Value), Room 0 A → Wf h₁ s g → Rd g v d →
    wpAny (model prog w) A (truthy v) (OutB s g b) E s
noncomputable def CallE (n : Nat) (f : Value) (ds : List D) (d : D) : Prop :=
  ∀ (A : Around) (E : Value → Shared → Prop) (s : Shared) (g : Gh) (vs : List Value), Room n A → Wf h₁ s g → RdL g vs ds →
    wpAny (model prog w) A (call f vs) (Out s g d) E s
end

section
variable {prog : Program} {w : World} {h₁ : Heap} {n : Nat} {sc : Scope} {σ : List (Str × D)}

theorem EvE.const_int {i : Int} {k : Nat} {pos : Pos} : EvE prog w h₁ n sc σ (.Constant (.int i) k pos) (.int i) := fun A E env F s g r hs I =>
  wpAny_Constant_int ⟨g, Grow.toks I.wf.sub _, .int _ _⟩
theorem EvE.const_str {x : Str} {k : Nat} {pos : Pos} : EvE prog w h₁ n sc σ (.Constant (.str x) k pos) (.str x) := fun A E env F s g r hs I =>
  wpAny_Constant_str ⟨g, Grow.toks I.wf.sub _, .str _ _⟩
theorem EvE.const_bool {b : Bool} {k : Nat} {pos : Pos} : EvE prog w h₁ n sc σ (.Constant (.bool b) k pos) (.bool b) := fun A E env F s g r hs I =>
  wpAny_Constant_bool ⟨g, Grow.refl I.wf.sub, .bool _⟩
theorem EvE.const_none {k : Nat} {pos : Pos} : EvE prog w h₁ n sc σ (.Constant .none k pos) .none := fun A E env F s g r hs I =>
  wpAny_Constant_none ⟨g, Grow.refl I.wf.sub, .none⟩

theorem loadName_of {A : Around} {E : Value → Shared → Prop} {env : Env} {s : Shared} {m : Str → Option Value} {x : Str} {v : Value} {Q : Value → Shared → Prop} (hk : env.scope.kind = .function)
    (hn : s.heap.Ns env.locals m) (H : HasVal env m s.heap x v) (h : Q v s) (hx : (x == ("__classdict__" : Str)) = false) : wpAny (model prog w) A (loadName env x) Q E s := by
  rcases H with ⟨hl, hv⟩ | ⟨hl | hl, c, hc, hv⟩
  · exact wpAny_loadName_local hk hl hn hv h
  · exact wpAny_loadName_cell hk hl hc hv h
  · unfold loadName
    simp only [Env.blockKind, hk, hl, ScopeKind.isAnnotationScope, Bool.false_and, Bool.false_eq_true, if_false, hx]
    unfold cellOf
    rw [hc]
    refine wpAny_bind (wpAny_pure (wpAny_bind ?_))
    obtain ⟨o, ho, hd⟩ := hv
    unfold cellGet
    refine wpAny_bind (wpAny_load ho ?_)
    rw [hd]
    exact wpAny_pure (wpAny_pure h)

theorem EvE.name {x : Str} {pos : Pos} {d : D} (h : (x, d) ∈ σ) (hm : ∀ xs, d ≠ .mlist xs := by intro _ h; cases h) (hu : d ≠ .unset := by intro h; cases h) (hd : ((x == ("__debug__" : Str)) || (x == ("__classdict__" : Str))) = false := by decide +kernel) :
    EvE prog w h₁ n sc σ (.Name x pos) d := fun A E env F s g r hs I => by
  obtain ⟨m, ρ, hn, hv, _⟩ := I.vals
  have hd' := Bool.or_eq_false_iff.mp hd
  exact wpAny_Name (loadName_of I.fn hn ((hv x d h).1 hu) ⟨g, Grow.refl I.wf.sub, (hv x d h).2.rd hm hu⟩ hd'.2) hd'.1

theorem EvE.binop {l r : Expr} {op : Operator} {pos : Pos} {d₁ d₂ d : D} (hl : EvE prog w h₁ n sc σ l d₁) (hr : EvE prog w h₁ n sc σ r d₂) (ho : OpE prog w h₁ op d₁ d₂ d) :
    EvE prog w h₁ n sc σ (.BinOp l op r pos) d := fun A E env F s g rm hs I =>
  wpAny_BinOp (wpAny_mono (hl A E env F s g rm hs I) (fun v₁ s₁ ⟨g₁, G₁, r₁⟩ =>
    wpAny_mono (hr A E env F s₁ g₁ rm hs (I.grow' G₁)) (fun v₂ s₂ ⟨g₂, G₂, r₂⟩ =>
      wpAny_mono (ho A E s₂ g₂ v₁ v₂ (rm.less (Nat.zero_le _)) ((I.grow' G₁).grow' G₂).wf (r₁.mono (G₂.le (I.grow' G₁).wf.sub)) r₂) (fun v₃ s₃ ⟨g₃, G₃, r₃⟩ =>
        ⟨g₃, (G₁.trans G₂).trans G₃, r₃⟩) fun _ _ x => x) fun _ _ x => x) fun _ _ x => x)

theorem EvE.cmp {l r : Expr} {op : CmpOp} {pos : Pos} {d₁ d₂ : D} {b : Bool} (hl : EvE prog w h₁ n sc σ l d₁) (hr : EvE prog w h₁ n sc σ r d₂) (ho : CmpE prog w h₁ op d₁ d₂ b)
    (hm : behindInMarks op r = false := by with_unfolding_all rfl) :
    EvE prog w h₁ n sc σ (.Compare l [op] [r] pos) (.bool b) := fun A E env F s g rm hs I =>
  wpAny_Compare1 (wpAny_mono (hl A E env F s g rm hs I) (fun v₁ s₁ ⟨g₁, G₁, r₁⟩ =>
    wpAny_mono (hr A E env F s₁ g₁ rm hs (I.grow' G₁)) (fun v₂ s₂ ⟨g₂, G₂, r₂⟩ =>
      wpAny_mono (ho A E s₂ g₂ v₁ v₂ (rm.less (Nat.zero_le _)) ((I.grow' G₁).grow' G₂).wf (r₁.mono (G₂.le (I.grow' G₁).wf.sub)) r₂) (fun v₃ s₃ ⟨e, g₃, G₃⟩ =>
        ⟨g₃, (G₁.trans G₂).trans G₃, e ▸ .bool b⟩) fun _ _ x => x) fun _ _ x => x) fun _ _ x => x) hm
theorem EvB.cmp {l r : Expr} {op : CmpOp} {pos : Pos} {d₁ d₂ : D} {b : Bool} (hl : EvE prog w h₁ n sc σ l d₁) (hr : EvE prog w h₁ n sc σ r d₂) (ho : CmpE prog w h₁ op d₁ d₂ b)
    (hm : behindInMarks op r = false := by with_unfolding_all rfl) :
    EvB prog w h₁ n sc σ (.Compare l [op] [r] pos) b := fun A E env F s g rm hs I =>
  wpAny_isTrue_Compare1 (wpAny_mono (hl A E env F s g rm hs I) (fun v₁ s₁ ⟨g₁, G₁, r₁⟩ =>
    wpAny_mono (hr A E env F s₁ g₁ rm hs (I.grow' G₁)) (fun v₂ s₂ ⟨g₂, G₂, r₂⟩ =>
      wpAny_mono (ho A E s₂ g₂ v₁ v₂ (rm.less (Nat.zero_le _)) ((I.grow' G₁).grow' G₂).wf (r₁.mono (G₂.le (I.grow' G₁).wf.sub)) r₂) (fun v₃ s₃ ⟨e, g₃, G₃⟩ =>
        e ▸ wpAny_truthy_bool ⟨rfl, g₃, (G₁.trans G₂).trans G₃⟩) fun _ _ x => x) fun _ _ x => x) fun _ _ x => x) hm
theorem EvB.not {x : Expr} {pos : Pos} {b : Bool} (h : EvB prog w h₁ n sc σ x b) : EvB prog w h₁ n sc σ (.UnaryOp .Not x pos) (!b) := fun A E env F s g rm hs I =>
  wpAny_isTrue_Not (wpAny_mono (h A E env F s g rm hs I) (fun r s₁ ⟨e, G⟩ => ⟨by rw [e], G⟩) fun _ _ x => x)
/-- a test that is any other expression -/
theorem EvB.val {e : Expr} {d : D} {b : Bool} (h : EvE prog w h₁ n sc σ e d) (ht : TruE prog w h₁ d b)
    (he : ∀ env whole, isTrue e env whole = (do let v ← whole; standAt e.pos; holding [v] (truthy v)) := by intro _ _; rfl) : EvB prog w h₁ n sc σ e b := fun A E env F s g rm hs I =>
  wpAny_isTrue_value (wpAny_mono (h A E env F s g rm hs I) (fun v s₁ ⟨g₁, G₁, r₁⟩ =>
    wpAny_mono (ht A E s₁ g₁ v (rm.less (Nat.zero_le _)) (I.grow' G₁).wf r₁) (fun r s₂ ⟨e, g₂, G₂⟩ => ⟨e, g₂, G₁.trans G₂⟩) fun _ _ x => x) fun _ _ x => x) (he env _)
theorem TruE.bool {b : Bool} : TruE prog w h₁ (.bool b) b := fun A E s g v rm W h => by
  cases h; exact wpAny_truthy_bool ⟨rfl, g, Grow.refl W.sub⟩

theorem EvB.or2 {x y : Expr} {pos : Pos} {a b : Bool} (hx : EvB prog w h₁ n sc σ x a) (hy : a = false → EvB prog w h₁ n sc σ y b) : EvB prog w h₁ n sc σ (.BoolOp .Or [x, y] pos) (a || b) := fun A E env F s g rm hs I => by
  refine wpAny_isTrue_BoolOp (wpAny_allTrue_Or_cons (wpAny_mono (hx A E env F s g rm hs I) (fun r s₁ ⟨e, g₁, G₁⟩ => ?_) fun _ _ x => x))
  subst e
  cases r with
  | true => exact ⟨rfl, g₁, G₁⟩
  | false =>
    simp only [Bool.false_eq_true, if_false]
    refine wpAny_allTrue_Or_cons (wpAny_mono (hy rfl A E env F s₁ g₁ rm hs (I.grow' G₁)) (fun r s₂ ⟨e, g₂, G₂⟩ => ?_) fun _ _ x => x)
    subst e
    cases r with
    | true => exact ⟨rfl, g₂, G₁.trans G₂⟩
    | false => exact wpAny_allTrue_Or_nil ⟨rfl, g₂, G₁.trans G₂⟩

theorem EvE.and2 {x y : Expr} {pos : Pos} {a b : Bool} (hx : EvE prog w h₁ n sc σ x (.bool a)) (hy : a = true → EvE prog w h₁ n sc σ y (.bool b)) : EvE prog w h₁ n sc σ (.BoolOp .And [x, y] pos) (.bool (a && b)) := fun A E env F s g rm hs I => by
  refine wpAny_And2 (wpAny_mono (hx A E env F s g rm hs I) (fun v s₁ ⟨g₁, G₁, r₁⟩ => ?_) fun _ _ x => x)
  cases r₁
  refine wpAny_truthy_bool ?_
  cases a with
  | false => exact ⟨g₁, G₁, .bool _⟩
  | true =>
    simp only [if_true, Bool.true_and]
    exact wpAny_mono (hy rfl A E env F s₁ g₁ rm hs (I.grow' G₁)) (fun v s₂ ⟨g₂, G₂, r₂⟩ => ⟨g₂, G₁.trans G₂, r₂⟩) fun _ _ x => x

theorem EvE.ifexp {t b o : Expr} {pos : Pos} {c : Bool} {d : D} (ht : EvB prog w h₁ n sc σ t c) (hb : c = true → EvE prog w h₁ n sc σ b d) (ho : c = false → EvE prog w h₁ n sc σ o d) :
    EvE prog w h₁ n sc σ (.IfExp t b o pos) d := fun A E env F s g rm hs I => by
  refine wpAny_IfExp (wpAny_mono (ht A E env F s g rm hs I) (fun r s₁ ⟨e, g₁, G₁⟩ => ?_) fun _ _ x => x)
  subst e
  cases r with
  | true => exact wpAny_mono (hb rfl A E env F s₁ g₁ rm hs (I.grow' G₁)) (fun v s₂ ⟨g₂, G₂, r₂⟩ => ⟨g₂, G₁.trans G₂, r₂⟩) fun _ _ x => x
  | false => exact wpAny_mono (ho rfl A E env F s₁ g₁ rm hs (I.grow' G₁)) (fun v s₂ ⟨g₂, G₂, r₂⟩ => ⟨g₂, G₁.trans G₂, r₂⟩) fun _ _ x => x

theorem EvL.nil : EvL prog w h₁ n sc σ [] [] := fun A E env F s g pos rm hs I => wpAny_items_nil ⟨g, Grow.refl I.wf.sub, .nil⟩
theorem EvL.cons {e : Expr} {es : List Expr} {d : D} {ds : List D} (h : EvE prog w h₁ n sc σ e d) (hs : EvL prog w h₁ n sc σ es ds)
    (he : ∀ env, starEach (e :: es) env = (false, eval e env) :: starEach es env := by intro _; rfl) : EvL prog w h₁ n sc σ (e :: es) (d :: ds) := fun A E env F s g pos rm hsc I =>
  wpAny_items_cons (wpAny_mono (h A E env F s g rm hsc I) (fun v s₁ ⟨g₁, G₁, r₁⟩ =>
    wpAny_mono (hs A E env F s₁ g₁ pos rm hsc (I.grow' G₁)) (fun vs s₂ ⟨g₂, G₂, r₂⟩ => ⟨g₂, G₁.trans G₂, .cons (r₁.mono (G₂.le (I.grow' G₁).wf.sub)) r₂⟩) fun _ _ x => x) fun _ _ x => x) (he env)

theorem EvE.list {es : List Expr} {ds : List D} {pos : Pos} (h : EvL prog w h₁ n sc σ es ds) (hz : ds.length ≤ 1000 := by first | decide | (simp; omega)) : EvE prog w h₁ n sc σ (.List es pos) (.list ds) := fun A E env F s g rm hs I =>
  wpAny_List (wpAny_mono (h A E env F s g pos rm hs I) (fun vs s₁ ⟨g₁, G₁, r₁⟩ =>
    ⟨by rw [r₁.length]; exact Nat.le_trans hz (by decide), g₁.add s₁.heap.objs.size (listO vs 0), G₁.trans (Grow.push G₁.sub _ rfl s₁.toks), .list (Gh.add_self _ _ _) (r₁.mono fun a o e => by
      exact Gh.add_le G₁.sub (get?_none_of_size (Nat.le_refl _)) _ a o e)⟩) fun _ _ x => x)
theorem EvE.tuple {es : List Expr} {ds : List D} {k : Nat} {pos : Pos} (h : EvL prog w h₁ n sc σ es ds) (hz : ds.length ≤ 1000 := by first | decide | (simp; omega)) : EvE prog w h₁ n sc σ (.Tuple es k pos) (.tuple ds) := fun A E env F s g rm hs I =>
  wpAny_Tuple (wpAny_mono (h A E env F s g pos rm hs I) (fun vs s₁ ⟨g₁, G₁, r₁⟩ =>
    ⟨by rw [r₁.length]; exact Nat.le_trans hz (by decide), g₁.add s₁.heap.objs.size (tupO vs 0), G₁.trans (Grow.push G₁.sub _ rfl s₁.toks), .tuple (Gh.add_self _ _ _) (r₁.mono fun a o e => by
      exact Gh.add_le G₁.sub (get?_none_of_size (Nat.le_refl _)) _ a o e)⟩) fun _ _ x => x)
end

end Mine
end

-- part MOps
section

open PySem PySem.W PyProof.Rows
set_option linter.unusedVariables false
set_option maxRecDepth 100000
namespace Mine

noncomputable abbrev sL (ss : List Str) : List D := ss.map D.str
theorem beqD {α : Type} [DecidableEq α] [BEq α] [LawfulBEq α] (a b : α) : (a == b) = decide (a = b) := by
  by_cases h : a = b <;> simp [h]
theorem RdL.strsAre {g : Gh} : ∀ {vs : List Value} {ss : List Str}, RdL g vs (sL ss) → StrsAre vs ss
  | _, [], .nil => .nil
  | _, s :: ss, .cons h hs => by cases h; exact .cons _ _ (RdL.strsAre hs)
theorem RdL.ofStrs {g : Gh} : ∀ {vs : List Value} {ss : List Str}, StrsAre vs ss → RdL g vs (sL ss)
  | _, _, .nil => .nil
  | _, _, .cons y t h => .cons (.str y t) (RdL.ofStrs h)

section
variable {prog : Program} {w : World} {h₁ : Heap} {n : Nat} {sc : Scope} {σ : List (Str × D)}

theorem OpE.add_int {a b : Int} : OpE prog w h₁ .Add (.int a) (.int b) (.int (a + b)) := fun A E s g v₁ v₂ rm W x y => by
  cases x; cases y; exact PyProof.Rows.add_int ⟨g, Grow.toks W.sub _, .int _ _⟩
theorem OpE.sub_int {a b : Int} : OpE prog w h₁ .Sub (.int a) (.int b) (.int (a - b)) := fun A E s g v₁ v₂ rm W x y => by
  cases x; cases y; exact PyProof.Rows.sub_int ⟨g, Grow.toks W.sub _, .int _ _⟩
theorem OpE.mod_int {a b : Int} (hb : b ≠ 0) : OpE prog w h₁ .Mod (.int a) (.int b) (.int (a.fmod b)) := fun A E s g v₁ v₂ rm W x y => by
  cases x; cases y; exact PyProof.Rows.mod_int hb ⟨g, Grow.toks W.sub _, .int _ _⟩
theorem OpE.div_int {a b : Int} (hb : b ≠ 0) (hs : b.natAbs < 1073741824) : OpE prog w h₁ .FloorDiv (.int a) (.int b) (.int (a.fdiv b)) := fun A E s g v₁ v₂ rm W x y => by
  cases x; cases y; exact PyProof.Rows.floordiv_int hb ⟨g, Grow.toks W.sub _, .int _ _⟩ (.inl (PyProof.noPylong_small hs))
theorem OpE.add_str {a b : Str} (hz : a.length + b.length ≤ sizeLine) : OpE prog w h₁ .Add (.str a) (.str b) (.str (a ++ b)) := fun A E s g v₁ v₂ rm W x y => by
  cases x; cases y
  refine PySem.P.add_str ?_
  split
  · rename_i h
    have : a = Str.empty := by cases a; simp [Str.length] at h; subst h; rfl
    subst this
    rw [Str.empty_append]
    exact ⟨g, Grow.refl W.sub, .str _ _⟩
  · split
    · rename_i h
      have : b = Str.empty := by cases b; simp [Str.length] at h; subst h; rfl
      subst this
      rw [Str.append_empty]
      exact ⟨g, Grow.refl W.sub, .str _ _⟩
    · exact ⟨by rw [Str.length_append]; exact hz, g, Grow.toks W.sub _, .str _ _⟩
theorem OpE.add_list {a b : List D} (hz : a.length + b.length ≤ 1000) : OpE prog w h₁ .Add (.list a) (.list b) (.list (a ++ b)) := fun A E s g v₁ v₂ rm W x y => by
  cases x with | list ha ra =>
  cases y with | list hb rb =>
  rename_i vs _ _ ws _
  have e1 := ra.length
  have e2 := rb.length
  refine PySem.P.add_list (W.sub _ _ ha) (W.sub _ _ hb) ?_ (by simp only [List.size_toArray]; have : sizeLine = 16777216 := rfl; omega)
  rw [show (vs.toArray ++ ws.toArray) = (vs ++ ws).toArray from by simp]
  exact ⟨g.add s.heap.objs.size (listO (vs ++ ws) 0), Grow.push W.sub _ rfl s.toks, .list (Gh.add_self _ _ _) ((ra.append rb).mono fun a o e => by
      exact Gh.add_le W.sub (get?_none_of_size (Nat.le_refl _)) _ a o e)⟩

theorem CmpE.ne_int {a b : Int} : CmpE prog w h₁ .NotEq (.int a) (.int b) (decide (a ≠ b)) := fun A E s g v₁ v₂ rm W x y => by
  cases x; cases y; exact PyProof.Rows.ne_int ⟨by simp [bne, beqD], g, Grow.refl W.sub⟩
theorem CmpE.lt_int {a b : Int} : CmpE prog w h₁ .Lt (.int a) (.int b) (decide (a < b)) := fun A E s g v₁ v₂ rm W x y => by
  cases x; cases y; exact PyProof.Rows.lt_int ⟨rfl, g, Grow.refl W.sub⟩
theorem CmpE.gt_int {a b : Int} : CmpE prog w h₁ .Gt (.int a) (.int b) (decide (b < a)) := fun A E s g v₁ v₂ rm W x y => by
  cases x; cases y; exact PyProof.Rows.gt_int ⟨rfl, g, Grow.refl W.sub⟩
theorem CmpE.ge_int {a b : Int} : CmpE prog w h₁ .GtE (.int a) (.int b) (decide (b ≤ a)) := fun A E s g v₁ v₂ rm W x y => by
  cases x; cases y; exact PyProof.Rows.ge_int ⟨rfl, g, Grow.refl W.sub⟩
theorem CmpE.ne_bool {a b : Bool} : CmpE prog w h₁ .NotEq (.bool a) (.bool b) (a != b) := fun A E s g v₁ v₂ rm W x y => by
  cases x; cases y; exact PyProof.Rows.ne_bool ⟨rfl, g, Grow.refl W.sub⟩
theorem CmpE.isnot_bool {a b : Bool} : CmpE prog w h₁ .IsNot (.bool a) (.bool b) (a != b) := fun A E s g v₁ v₂ rm W x y => by
  cases x; cases y; exact PyProof.Rows.isnot_bool ⟨rfl, g, Grow.refl W.sub⟩
theorem CmpE.is_none_none : CmpE prog w h₁ .Is .none .none true := fun A E s g v₁ v₂ rm W x y => by
  cases x; cases y; exact PySem.is_none ⟨rfl, g, Grow.refl W.sub⟩
theorem CmpE.is_int_none {a : Int} : CmpE prog w h₁ .Is (.int a) .none false := fun A E s g v₁ v₂ rm W x y => by
  cases x; cases y; exact PySem.is_none ⟨rfl, g, Grow.refl W.sub⟩
theorem CmpE.eq_str {a b : Str} : CmpE prog w h₁ .Eq (.str a) (.str b) (decide (a = b)) := fun A E s g v₁ v₂ rm W x y => by
  cases x; cases y; exact PyProof.Rows.eq_str ⟨by simp [beqD], g, Grow.refl W.sub⟩
theorem CmpE.ne_str {a b : Str} : CmpE prog w h₁ .NotEq (.str a) (.str b) (decide (a ≠ b)) := fun A E s g v₁ v₂ rm W x y => by
  cases x; cases y; exact PyProof.Rows.ne_str ⟨by simp [bne, beqD], g, Grow.refl W.sub⟩
theorem CmpE.notin_str {a b : Str} : CmpE prog w h₁ .NotIn (.str a) (.str b) (!Txt.contains b a) := fun A E s g v₁ v₂ rm W x y => by
  cases x; cases y; exact PySem.P.notIn_str ⟨rfl, g, Grow.refl W.sub⟩
theorem CmpE.in_strs {a : Str} {ss : List Str} : CmpE prog w h₁ .In (.str a) (.list (sL ss)) (decide (a ∈ ss)) := fun A E s g v₁ v₂ rm W x y => by
  cases x
  cases y with | list hb rb =>
  refine PyProof.Rows.in_list_strs ⟨_, W.sub _ _ hb, rfl, _, rfl⟩ rb.strsAre ⟨?_, g, Grow.refl W.sub⟩
  congr 1
  rw [Bool.eq_iff_iff]
  simp [List.any_eq_true]

theorem all_zip_eq : ∀ (xs ys : List Str), xs.length = ys.length → (List.range xs.length).all (fun j => (xs[j]?).getD Str.empty == (ys[j]?).getD Str.empty) = decide (xs = ys)
  | [], [], _ => by simp
  | x :: xs, y :: ys, h => by
    have ih := all_zip_eq xs ys (by simpa using h)
    rw [List.length_cons, List.range_succ_eq_map, List.all_cons, List.all_map]
    simp only [List.getElem?_cons_zero, Option.getD_some, Function.comp_def, List.getElem?_cons_succ]
    rw [ih]
    by_cases hx : x = y <;> simp [hx]

theorem RcAt_strs {A : Around} {s : Shared} {l b : Addr} {vs ws : List Value} {xs ys : List Str} (hl : s.heap.IsList l vs.toArray) (hb : s.heap.IsList b ws.toArray) (hx : StrsAre vs xs) (hy : StrsAre ws ys)
    (hu : A.units < cLine) : SeqAt.RcAt A s (.ref l) (.ref b) (decide (xs = ys)) := by
  have e1 : vs.length = xs.length := by rw [← hx.strs, List.length_map]
  have e2 : ws.length = ys.length := by rw [← hy.strs, List.length_map]
  by_cases hlen : xs.length = ys.length
  · have := SeqAt.RcAt.lists (A := A) hl hb (by simp; omega) hu (e := fun j => (xs[j]?).getD Str.empty == (ys[j]?).getD Str.empty) (fun j h1 h2 => by
      have h1' : j < vs.length := by simpa using h1
      have h2' : j < ws.length := by simpa using h2
      obtain ⟨x, t, ex⟩ := hx.all vs[j] (List.getElem_mem _)
      obtain ⟨y, u, ey⟩ := hy.all ws[j] (List.getElem_mem _)
      have hxj : xs[j]? = some x := by rw [← hx.strs, List.getElem?_map, List.getElem?_eq_getElem h1', ex]; rfl
      have hyj : ys[j]? = some y := by rw [← hy.strs, List.getElem?_map, List.getElem?_eq_getElem h2', ey]; rfl
      simp only [List.getElem_toArray, ex, ey, hxj, hyj, Option.getD_some]
      exact SeqAt.EqAt.str_str x t y u)
    rw [List.size_toArray, e1, all_zip_eq xs ys hlen] at this
    exact this
  · rw [decide_eq_false (fun e => hlen (by rw [e]))]
    exact SeqAt.RcAt.lists_lengths hl hb (by simp; omega) hu
theorem RcNeAt_strs {A : Around} {s : Shared} {l b : Addr} {vs ws : List Value} {xs ys : List Str} (hl : s.heap.IsList l vs.toArray) (hb : s.heap.IsList b ws.toArray) (hx : StrsAre vs xs) (hy : StrsAre ws ys)
    (hu : A.units < cLine) : SeqAt.RcNeAt A s (.ref l) (.ref b) (decide (xs ≠ ys)) := by
  have e1 : vs.length = xs.length := by rw [← hx.strs, List.length_map]
  have e2 : ws.length = ys.length := by rw [← hy.strs, List.length_map]
  by_cases hlen : xs.length = ys.length
  · have := SeqAt.RcNeAt.lists (A := A) hl hb (by simp; omega) hu (e := fun j => (xs[j]?).getD Str.empty == (ys[j]?).getD Str.empty) (fun j h1 h2 => by
      have h1' : j < vs.length := by simpa using h1
      have h2' : j < ws.length := by simpa using h2
      obtain ⟨x, t, ex⟩ := hx.all vs[j] (List.getElem_mem _)
      obtain ⟨y, u, ey⟩ := hy.all ws[j] (List.getElem_mem _)
      have hxj : xs[j]? = some x := by rw [← hx.strs, List.getElem?_map, List.getElem?_eq_getElem h1', ex]; rfl
      have hyj : ys[j]? = some y := by rw [← hy.strs, List.getElem?_map, List.getElem?_eq_getElem h2', ey]; rfl
      simp only [List.getElem_toArray, ex, ey, hxj, hyj, Option.getD_some]
      exact SeqAt.EqAt.str_str x t y u)
    rw [List.size_toArray, e1, all_zip_eq xs ys hlen] at this
    rw [decide_not]
    exact this
  · have hne : xs ≠ ys := fun e => hlen (by rw [e])
    rw [decide_eq_true hne]
    exact SeqAt.RcNeAt.lists_lengths hl hb (by simp; omega) hu
theorem CmpE.eq_strs {xs ys : List Str} : CmpE prog w h₁ .Eq (.list (sL xs)) (.list (sL ys)) (decide (xs = ys)) := fun A E s g v₁ v₂ rm W x y => by
  cases x with | list ha ra =>
  cases y with | list hb rb =>
  exact RcAt_strs ⟨_, W.sub _ _ ha, rfl, _, rfl⟩ ⟨_, W.sub _ _ hb, rfl, _, rfl⟩ ra.strsAre rb.strsAre rm.units_lt prog w E _ ⟨rfl, g, Grow.refl W.sub⟩
theorem CmpE.ne_strs {xs ys : List Str} : CmpE prog w h₁ .NotEq (.list (sL xs)) (.list (sL ys)) (decide (xs ≠ ys)) := fun A E s g v₁ v₂ rm W x y => by
  cases x with | list ha ra =>
  cases y with | list hb rb =>
  exact RcNeAt_strs ⟨_, W.sub _ _ ha, rfl, _, rfl⟩ ⟨_, W.sub _ _ hb, rfl, _, rfl⟩ ra.strsAre rb.strsAre rm.units_lt prog w E _ ⟨rfl, g, Grow.refl W.sub⟩

/-- a negated written int -/
theorem EvE.neg {e : Expr} {i : Int} {pos : Pos} (h : EvE prog w h₁ n sc σ e (.int i)) : EvE prog w h₁ n sc σ (.UnaryOp .USub e pos) (.int (-i)) := fun A E env F s g rm hs I =>
  wpAny_UnaryOp (wpAny_mono (h A E env F s g rm hs I) (fun v s₁ ⟨g₁, G₁, r₁⟩ => by
    cases r₁; exact PySem.P.neg_int ⟨g₁, G₁.trans (Grow.toks G₁.sub _), .int _ _⟩) fun _ _ x => x)
end
end Mine
end

-- part MSub
section

open PySem PySem.W PyProof.Rows
set_option linter.unusedVariables false
set_option maxRecDepth 100000
namespace Mine

section
variable (prog : Program) (w : World) (h₁ : Heap)
noncomputable def GetE (d₁ d₂ d : D) : Prop :=
  ∀ (A : Around) (E : Value → Shared → Prop) (s : Shared) (g : Gh) (v₁ v₂ : Value), Room 0 A → Wf h₁ s g → Rd g v₁ d₁ → Rd g v₂ d₂ →
    (∃ T id, s.TypeIs v₁ T ∧ typeLookup (.type T) "__getitem__" = pure (some (.builtin id))) ∧ wpAny (model prog w) A (getItem v₁ v₂) (Out s g d) E s
noncomputable def EvP (n : Nat) (sc : Scope) (σ : List (Str × D)) (o : Option Expr) (k : Option Int) : Prop :=
  ∀ (A : Around) (E : Value → Shared → Prop) (env : Env) (F : Fx) (s : Shared) (g : Gh), Room n A → env.scope = sc → Inv h₁ env σ F s g →
    wpAny (model prog w) A (evalPart o env) (fun v s' => IsPart v k ∧ ∃ g', Grow s g s' g') E s
end

noncomputable def cut {α : Type} (xs : List α) (lo hi : Option Int) : List α :=
  (xs.drop (lo.elim 0 (clipAt xs.length))).take (hi.elim xs.length (clipAt xs.length) - lo.elim 0 (clipAt xs.length))
theorem cut_upto {α : Type} (xs : List α) (b : Nat) : cut xs none (some (b : Int)) = xs.take b := by
  simp only [cut, Option.elim, List.drop_zero, clipAt_nat, Nat.sub_zero]
  by_cases h : b ≤ xs.length
  · rw [Nat.min_eq_left h]
  · rw [Nat.min_eq_right (by omega), List.take_of_length_le (Nat.le_refl _), List.take_of_length_le (by omega)]
theorem cut_from {α : Type} (xs : List α) (a : Nat) : cut xs (some (a : Int)) none = xs.drop a := by
  simp only [cut, Option.elim, clipAt_nat]
  by_cases h : a ≤ xs.length
  · rw [Nat.min_eq_left h, List.take_of_length_le (by simp)]
  · rw [Nat.min_eq_right (by omega), List.drop_of_length_le (Nat.le_refl _), List.drop_of_length_le (by omega)]; simp
theorem cut_both {α : Type} (xs : List α) (a b : Nat) : cut xs (some (a : Int)) (some (b : Int)) = (xs.take b).drop a := by
  simp only [cut, Option.elim, clipAt_nat]
  rw [List.drop_take]
  by_cases h : a ≤ xs.length
  · rw [Nat.min_eq_left h]
    by_cases hb : b ≤ xs.length
    · rw [Nat.min_eq_left hb]
    · rw [Nat.min_eq_right (show xs.length ≤ b by omega), List.take_of_length_le (by simp), List.take_of_length_le (by simp; omega)]
  · rw [Nat.min_eq_right (show xs.length ≤ a by omega), List.drop_of_length_le (Nat.le_refl _), List.drop_of_length_le (by omega)]; simp
theorem seqIndex_nat {i : Int} {len : Nat} (h0 : 0 ≤ i) (h : i.toNat < len) : seqIndex? i len = some i.toNat := by
  have h' : ¬ i < 0 := by omega
  simp only [seqIndex?, h', if_false]
  rw [if_pos (by simp; omega)]
theorem cut_butLast {α : Type} (xs : List α) (k : Nat) (hk : 1 ≤ k) : cut xs none (some (-(k : Int))) = xs.take (xs.length - k) := by
  simp only [cut, Option.elim, List.drop_zero, Nat.sub_zero]
  rw [clipAt_neg _ _ hk]
theorem cut_map {α β : Type} (f : α → β) (xs : List α) (lo hi : Option Int) : cut (xs.map f) lo hi = (cut xs lo hi).map f := by
  simp only [cut, List.length_map, List.map_take, List.map_drop]

theorem RdL.cut {g : Gh} {vs : List Value} {ds : List D} (h : RdL g vs ds) (lo hi : Option Int) : RdL g (Mine.cut vs lo hi) (Mine.cut ds lo hi) := by
  unfold Mine.cut; rw [h.length]; exact (h.drop _).take _

section
variable {prog : Program} {w : World} {h₁ : Heap} {n : Nat} {sc : Scope} {σ : List (Str × D)}

theorem EvP.none : EvP prog w h₁ n sc σ none none := fun A E env F s g rm hs I => by
  rw [evalPart_none]; exact wpAny_pure ⟨.none, g, Grow.refl I.wf.sub⟩
theorem EvP.some {e : Expr} {i : Int} (h : EvE prog w h₁ n sc σ e (.int i)) : EvP prog w h₁ n sc σ (some e) (some i) := fun A E env F s g rm hs I => by
  rw [evalPart_some]
  exact wpAny_mono (h A E env F s g rm hs I) (fun v s₁ ⟨g₁, G₁, r₁⟩ => by cases r₁; exact ⟨.int _ _, g₁, G₁⟩) fun _ _ x => x

theorem EvE.sub {value slice : Expr} {pos : Pos} {d₁ d₂ d : D} (hv : EvE prog w h₁ n sc σ value d₁) (hi : EvE prog w h₁ n sc σ slice d₂) (hg : GetE prog w h₁ d₁ d₂ d)
    (hs : ∀ o i, subscripted slice false o i = operate [o, i] (getItem o i) := by intro _ _; with_unfolding_all rfl) : EvE prog w h₁ n sc σ (.Subscript value slice pos) d := fun A E env F s g rm hsc I =>
  Subscript_ (wpAny_mono (hv A E env F s g rm hsc I) (fun v₁ s₁ ⟨g₁, G₁, r₁⟩ =>
    wpAny_mono (hi A E env F s₁ g₁ rm hsc (I.grow' G₁)) (fun v₂ s₂ ⟨g₂, G₂, r₂⟩ => by
      obtain ⟨⟨T, id, hT, hl⟩, hw⟩ := hg A E s₂ g₂ v₁ v₂ (rm.less (Nat.zero_le _)) ((I.grow' G₁).grow' G₂).wf (r₁.mono (G₂.le (I.grow' G₁).wf.sub)) r₂
      exact tail_any hT hl (wpAny_mono hw (fun v₃ s₃ ⟨g₃, G₃, r₃⟩ => ⟨g₃, (G₁.trans G₂).trans G₃, r₃⟩) fun _ _ x => x) (hs _ _)) fun _ _ x => x) fun _ _ x => x)

theorem GetE.list {ds : List D} {i : Int} {d : D} (h0 : 0 ≤ i) (hz : i < 2 ^ 63) (hx : ds[i.toNat]? = some d) : GetE prog w h₁ (.list ds) (.int i) d := fun A E s g v₁ v₂ rm W x y => by
  cases y
  cases x with | list ha ra =>
  obtain ⟨v, hv, hr⟩ := ra.get hx
  have hl : s.heap.IsList _ _ := ⟨_, W.sub _ _ ha, rfl, _, rfl⟩
  exact ⟨⟨_, _, hl.typeIs, slot_list_getitem.lookup⟩, wpAny_getItem_list hl h0 hz (by simpa using hv) ⟨g, Grow.refl W.sub, hr⟩⟩
theorem GetE.listNeg {ds : List D} {i : Int} {d : D} (h0 : i < 0) (h1 : -(ds.length : Int) ≤ i) (hz : -(2 ^ 63) ≤ i) (hx : ds[(i + ds.length).toNat]? = some d) : GetE prog w h₁ (.list ds) (.int i) d := fun A E s g v₁ v₂ rm W x y => by
  cases y
  cases x with | list ha ra =>
  obtain ⟨v, hv, hr⟩ := ra.get hx
  have e := ra.length
  have hl : s.heap.IsList _ _ := ⟨_, W.sub _ _ ha, rfl, _, rfl⟩
  exact ⟨⟨_, _, hl.typeIs, slot_list_getitem.lookup⟩, wpAny_getItem_list_neg hl h0 (by simp only [List.size_toArray]; rw [e]; exact h1) hz (by simp only [List.size_toArray, List.getElem?_toArray]; rw [e]; exact hv) ⟨g, Grow.refl W.sub, hr⟩⟩
theorem GetE.tuple {ds : List D} {i : Int} {d : D} (h0 : 0 ≤ i) (hz : i < 2 ^ 63) (hx : ds[i.toNat]? = some d) : GetE prog w h₁ (.tuple ds) (.int i) d := fun A E s g v₁ v₂ rm W x y => by
  cases y
  cases x with | tuple ha ra =>
  obtain ⟨v, hv, hr⟩ := ra.get hx
  have e := ra.length
  have hlt : i.toNat < ds.length := by
    rcases Nat.lt_or_ge i.toNat ds.length with h | h
    · exact h
    · rw [List.getElem?_eq_none h] at hx; cases hx
  refine ⟨⟨"tuple", _, ⟨_, W.sub _ _ ha, rfl⟩, slot_tuple_getitem.lookup⟩, PySem.P.getItem_tuple (W.sub _ _ ha) (by omega) hz (k := i.toNat) ?_ (by simpa using hv) ⟨g, Grow.refl W.sub, hr⟩⟩
  exact seqIndex_nat h0 (by simp only [List.size_toArray]; omega)
theorem GetE.str {x : Str} {i : Int} {c : Nat} (h0 : 0 ≤ i) (hz : i < 2 ^ 63) (hx : x.cps.toList[i.toNat]? = some c) : GetE prog w h₁ (.str x) (.int i) (.str ⟨#[c]⟩) := fun A E s g v₁ v₂ rm W r y => by
  cases y
  cases r
  have hlt : i.toNat < x.cps.toList.length := by
    rcases Nat.lt_or_ge i.toNat x.cps.toList.length with h | h
    · exact h
    · rw [List.getElem?_eq_none h] at hx; cases hx
  have hlt' : i.toNat < x.length := by simpa [Str.length] using hlt
  refine ⟨⟨"str", _, typeIs_str _ _ _, F.slot_str_getitem.lookup⟩, PySem.P.getItem_str (c := c) ?_ ?_ ⟨g, Grow.toks W.sub _, .str _ _⟩⟩
  · rw [Bool.or_eq_false_iff]; exact ⟨decide_eq_false (by omega), decide_eq_false (by omega)⟩
  · rw [seqIndex_nat h0 hlt']
    simpa using hx

theorem EvE.slice_list {value : Expr} {lo hi : Option Expr} {p pos : Pos} {ds : List D} {a b : Option Int} (hv : EvE prog w h₁ n sc σ value (.list ds)) (hlo : EvP prog w h₁ n sc σ lo a) (hhi : EvP prog w h₁ n sc σ hi b)
    (hz : ds.length ≤ 1000) : EvE prog w h₁ n sc σ (.Subscript value (.Slice lo hi none p) pos) (.list (cut ds a b)) := fun A E env F s g rm hsc I => by
  refine Subscript_ (wpAny_mono (hv A E env F s g rm hsc I) (fun v₁ s₁ ⟨g₁, G₁, r₁⟩ => ?_) fun _ _ x => x)
  have I₁ := I.grow' G₁
  refine wpAny_Slice (wpAny_mono (hlo A E env F s₁ g₁ rm hsc I₁) (fun vl s₂ ⟨pl, g₂, G₂⟩ => ?_) fun _ _ x => x)
  have I₂ := I₁.grow' G₂
  refine wpAny_mono (hhi A E env F s₂ g₂ rm hsc I₂) (fun vu s₃ ⟨pu, g₃, G₃⟩ => ?_) fun _ _ x => x
  have I₃ := I₂.grow' G₃
  rw [evalPart_none]
  refine wpAny_pure ?_
  have r₃ := r₁.mono fun a o e => G₃.le I₂.wf.sub a o (G₂.le I₁.wf.sub a o e)
  cases r₃ with | @list l vs k _ ha ra =>
  have hl0 : s₃.heap.IsList l vs.toArray := ⟨_, I₃.wf.sub _ _ ha, rfl, _, rfl⟩
  have hl := hl0.push { cls := .type "slice", data := .fields #[vl, vu, Value.none] }
  have e := ra.length
  refine tail_any hl.typeIs slot_list_getitem.lookup (wpAny_getItem_list_slice hl (Heap.IsSliceOf.new ..) pl pu .none (by simp) ?_ (by simp only [List.size_toArray]; have : sizeLine = 16777216 := rfl; omega)) rfl
  rw [slicePick_plain]
  have hz3 : s₃.heap.get? (s₃.heap.push { cls := .type "slice", data := .fields #[vl, vu, Value.none] }).objs.size = none := get?_none_of_size (by rw [Heap.size_push]; exact Nat.le_succ _)
  have G₄ : Grow s₃ g₃ { s₃ with heap := (s₃.heap.push { cls := .type "slice", data := .fields #[vl, vu, Value.none] }).push (listO (cut vs a b) 0) } (g₃.add (s₃.heap.push { cls := .type "slice", data := .fields #[vl, vu, Value.none] }).objs.size (listO (cut vs a b) 0)) :=
    Grow.add I₃.wf.sub (fun _ _ e => Heap.get?_push_of_some _ (Heap.get?_push_of_some _ e)) hz3 (Heap.get?_push_size _ rfl) rfl rfl
  exact ⟨_, ((G₁.trans G₂).trans G₃).trans G₄, .list (Gh.add_self _ _ _) ((ra.cut a b).mono (Gh.add_le I₃.wf.sub hz3 _))⟩

theorem EvE.slice_xlist {value : Expr} {lo hi : Option Expr} {p pos : Pos} {ds : List D} {a b : Option Int} (hv : EvE prog w h₁ n sc σ value (.xlist ds)) (hlo : EvP prog w h₁ n sc σ lo a) (hhi : EvP prog w h₁ n sc σ hi b)
    (hz : ds.length ≤ 1000) : EvE prog w h₁ n sc σ (.Subscript value (.Slice lo hi none p) pos) (.list (cut ds a b)) := fun A E env F s g rm hsc I => by
  refine Subscript_ (wpAny_mono (hv A E env F s g rm hsc I) (fun v₁ s₁ ⟨g₁, G₁, r₁⟩ => ?_) fun _ _ x => x)
  have I₁ := I.grow' G₁
  refine wpAny_Slice (wpAny_mono (hlo A E env F s₁ g₁ rm hsc I₁) (fun vl s₂ ⟨pl, g₂, G₂⟩ => ?_) fun _ _ x => x)
  have I₂ := I₁.grow' G₂
  refine wpAny_mono (hhi A E env F s₂ g₂ rm hsc I₂) (fun vu s₃ ⟨pu, g₃, G₃⟩ => ?_) fun _ _ x => x
  have I₃ := I₂.grow' G₃
  rw [evalPart_none]
  refine wpAny_pure ?_
  have r₃ := r₁.mono fun a o e => G₃.le I₂.wf.sub a o (G₂.le I₁.wf.sub a o e)
  cases r₃ with | @xlist l o vs k _ ha hc hd ra =>
  have hl0 : s₃.heap.IsList l vs.toArray := ⟨_, I₃.wf.sub _ _ ha, hc, _, hd⟩
  have hl := hl0.push { cls := .type "slice", data := .fields #[vl, vu, Value.none] }
  have e := ra.length
  refine tail_any hl.typeIs slot_list_getitem.lookup (wpAny_getItem_list_slice hl (Heap.IsSliceOf.new ..) pl pu .none (by simp) ?_ (by simp only [List.size_toArray]; have : sizeLine = 16777216 := rfl; omega)) rfl
  rw [slicePick_plain]
  have hz3 : s₃.heap.get? (s₃.heap.push { cls := .type "slice", data := .fields #[vl, vu, Value.none] }).objs.size = none := get?_none_of_size (by rw [Heap.size_push]; exact Nat.le_succ _)
  have G₄ : Grow s₃ g₃ { s₃ with heap := (s₃.heap.push { cls := .type "slice", data := .fields #[vl, vu, Value.none] }).push (listO (cut vs a b) 0) } (g₃.add (s₃.heap.push { cls := .type "slice", data := .fields #[vl, vu, Value.none] }).objs.size (listO (cut vs a b) 0)) :=
    Grow.add I₃.wf.sub (fun _ _ e => Heap.get?_push_of_some _ (Heap.get?_push_of_some _ e)) hz3 (Heap.get?_push_size _ rfl) rfl rfl
  exact ⟨_, ((G₁.trans G₂).trans G₃).trans G₄, .list (Gh.add_self _ _ _) ((ra.cut a b).mono (Gh.add_le I₃.wf.sub hz3 _))⟩

/-- a text's cut -/
noncomputable def cutS (x : Str) (lo hi : Option Int) : Str := ⟨((Builtin.Str.strSliceIndices lo hi 1 x.length).filterMap (x.cps[·]?)).toArray⟩

theorem partVal {v : Value} {k : Option Int} (h : IsPart v k) : ∃ l : Option (Int × Tok), v = partValue l ∧ l.map (·.1) = k := by
  cases h with
  | none => exact ⟨Option.none, rfl, rfl⟩
  | int i t => exact ⟨Option.some (i, t), rfl, rfl⟩

theorem cutS_len (x : Str) (lo hi : Option Int) : (cutS x lo hi).length ≤ x.length := by
  refine Nat.le_trans ?_ (sliceIndices_le lo hi x.length)
  simp only [cutS, Str.length, List.size_toArray]
  exact List.length_filterMap_le _ _

theorem EvE.slice_str {value : Expr} {lo hi : Option Expr} {p pos : Pos} {x y : Str} {a b : Option Int} (hv : EvE prog w h₁ n sc σ value (.str x)) (hlo : EvP prog w h₁ n sc σ lo a) (hhi : EvP prog w h₁ n sc σ hi b)
    (hy : ((Builtin.Str.strSliceIndices a b 1 x.length).length = x.length → y = x) ∧ cutS x a b = y) (hz : x.length ≤ sizeLine) : EvE prog w h₁ n sc σ (.Subscript value (.Slice lo hi none p) pos) (.str y) := fun A E env F s g rm hsc I => by
  refine Subscript_ (wpAny_mono (hv A E env F s g rm hsc I) (fun v₁ s₁ ⟨g₁, G₁, r₁⟩ => ?_) fun _ _ x => x)
  have I₁ := I.grow' G₁
  refine wpAny_Slice (wpAny_mono (hlo A E env F s₁ g₁ rm hsc I₁) (fun vl s₂ ⟨pl, g₂, G₂⟩ => ?_) fun _ _ x => x)
  have I₂ := I₁.grow' G₂
  refine wpAny_mono (hhi A E env F s₂ g₂ rm hsc I₂) (fun vu s₃ ⟨pu, g₃, G₃⟩ => ?_) fun _ _ x => x
  have I₃ := I₂.grow' G₃
  rw [evalPart_none]
  refine wpAny_pure ?_
  cases r₁
  obtain ⟨l, rfl, hl⟩ := partVal pl
  obtain ⟨u, rfl, hu⟩ := partVal pu
  have G₄ : Grow s₃ g₃ { s₃ with heap := s₃.heap.push { cls := .type "slice", data := .fields #[partValue l, partValue u, Value.none] } } g₃ :=
    Grow.kept I₃.wf.sub (fun _ _ e => Heap.get?_push_of_some _ e) rfl rfl
  have G := ((G₁.trans G₂).trans G₃).trans G₄
  refine tail_any (typeIs_str _ _ _) PySem.F.slot_str_getitem.lookup (wpAny_getItem_str_slice (l := l) (u := u) (st := Option.none) ⟨_, Heap.get?_push_size _ rfl, rfl, rfl⟩ rfl ?_) rfl
  unfold sliceMade
  have e : slicePicked x l u Option.none = Builtin.Str.strSliceIndices a b 1 x.length := by
    unfold slicePicked; rw [hl, hu]; rfl
  rw [e]
  split
  · rename_i h
    have h' := (Bool.and_eq_true_iff.mp h).2
    rw [hy.1 (beq_iff_eq.mp h')]
    exact ⟨_, G, .str _ _⟩
  · rw [← hy.2]
    exact ⟨Nat.le_trans (cutS_len x a b) hz, _, G.trans (Grow.toks G.sub _), .str _ _⟩
end

theorem cutS_both (x : Str) {a b : Nat} (hab : a ≤ b) (hb : b ≤ x.length) : cutS x (some (a : Int)) (some (b : Int)) = ⟨((x.cps.toList.drop a).take (b - a)).toArray⟩ := by
  unfold cutS; rw [StrLaws.sliced_plain x hab hb]
theorem idx_from (a len : Nat) : Builtin.Str.strSliceIndices (some (a : Int)) none 1 len = Builtin.Str.strSliceIndices (some (a : Int)) (some (len : Int)) 1 len := by
  simp only [Builtin.Str.strSliceIndices]
  congr 1
  have h : ¬ ((len : Int) < 0) := by omega
  simp only [h, if_false, show ((1 : Int) > 0) = True from by simp, if_true]
  omega
theorem cutS_from (x : Str) {a : Nat} (ha : a ≤ x.length) : cutS x (some (a : Int)) none = ⟨(x.cps.toList.drop a).toArray⟩ := by
  unfold cutS; rw [idx_from]
  have := cutS_both x ha (Nat.le_refl _)
  unfold cutS at this; rw [this]
  congr 2
  rw [List.take_of_length_le]
  simp [Str.length]
theorem cutS_side (x : Str) {a b : Nat} (hab : a ≤ b) (hb : b ≤ x.length) :
    ((Builtin.Str.strSliceIndices (some (a : Int)) (some (b : Int)) 1 x.length).length = x.length → (⟨((x.cps.toList.drop a).take (b - a)).toArray⟩ : Str) = x) ∧
      cutS x (some (a : Int)) (some (b : Int)) = ⟨((x.cps.toList.drop a).take (b - a)).toArray⟩ := by
  refine ⟨fun h => ?_, cutS_both x hab hb⟩
  rw [StrLaws.strSliceIndices_plain hab hb, List.length_map, List.length_range] at h
  have ha0 : a = 0 := by omega
  subst ha0
  cases x with | mk cps =>
  simp only [List.drop_zero]
  rw [List.take_of_length_le (by simp [Str.length] at h ⊢; omega)]
theorem cutS_sideFrom (x : Str) {a : Nat} (ha : a ≤ x.length) :
    ((Builtin.Str.strSliceIndices (some (a : Int)) none 1 x.length).length = x.length → (⟨(x.cps.toList.drop a).toArray⟩ : Str) = x) ∧
      cutS x (some (a : Int)) none = ⟨(x.cps.toList.drop a).toArray⟩ := by
  refine ⟨fun h => ?_, cutS_from x ha⟩
  rw [idx_from, StrLaws.strSliceIndices_plain ha (Nat.le_refl _), List.length_map, List.length_range] at h
  have ha0 : a = 0 := by omega
  subst ha0
  rfl
end Mine
end

-- part MCalls
section

open PySem PySem.W PyProof.Rows
set_option linter.unusedVariables false
set_option maxRecDepth 100000
namespace Mine

/-- what a global name means -/
noncomputable def Glob (mg mb : Str → Option Value) (x : Str) (v : Value) : Prop := mg x = some v ∨ (mg x = none ∧ mb x = some v)

section
variable {prog : Program} {w : World} {h₁ : Heap} {mg mb : Str → Option Value} {n : Nat} {sc : Scope} {σ : List (Str × D)}

theorem name_glob (B : Bs h₁ mg mb) {A : Around} {E : Value → Shared → Prop} {env : Env} {F : Fx} {s : Shared} {g : Gh} {x : Str} {pos : Pos} {v : Value} {Q : Value → Shared → Prop}
    (I : Inv h₁ env σ F s g) (hk : env.scope.names.lookup x = some .globalImplicit) (hg : Glob mg mb x v) (h : Q v s) (hd : (x == ("__debug__" : Str)) = false) : wpAny (model prog w) A (eval (.Name x pos) env) Q E s := by
  refine Calls.Name_function_global I.fn hk ?_ hd
  have e1 : s.heap.Ns env.globals mg := by rw [I.gl]; exact B.g.keeps I.wf.keep1
  have e2 : s.heap.Ns env.builtins mb := by rw [I.bl]; exact B.b.keeps I.wf.keep1
  rcases hg with hg | ⟨hg, hb⟩
  · exact Calls.loadGlobal_global e1 hg h
  · exact Calls.loadGlobal_builtin e1 hg e2 hb h

/-- a global that holds data (a text) -/
theorem EvE.glob_str (B : Bs h₁ mg mb) {x : Str} {pos : Pos} {y : Str} {t : Tok} (hk : sc.names.lookup x = some .globalImplicit) (hg : Glob mg mb x (.str y t)) (hd : (x == ("__debug__" : Str)) = false := by decide +kernel) :
    EvE prog w h₁ n sc σ (.Name x pos) (.str y) := fun A E env F s g rm hs I =>
  name_glob B I (hs ▸ hk) hg ⟨g, Grow.refl I.wf.sub, .str _ _⟩ hd

theorem args_any (pos : Pos) : ∀ (l : List (Bool × Sem Value)), l.any (·.1) = false → (backTo pos l).any (·.1) = false
  | [], _ => rfl
  | (b, t) :: r, h => by
    simp only [List.any_cons, Bool.or_eq_false_iff] at h
    simp only [backTo, List.map_cons, List.any_cons, h.1, Bool.false_or]
    exact args_any pos r h.2

theorem evalArgs_of {A : Around} {E : Value → Shared → Prop} {env : Env} {s : Shared} {f : Value} {e : Expr} {es : List Expr} {pos : Pos} {Q : Args → Shared → Prop}
    (h : wpAny (model prog w) A (spliced (backTo pos (starEach (e :: es) env))) (fun vs s' => Q ⟨vs, []⟩ s') E s) (he : starEach (e :: es) env = (false, eval e env) :: starEach es env) :
    wpAny (model prog w) A (evalArgs f true (backTo pos (starEach (e :: es) env)) []) Q E s := by
  rw [he] at h ⊢
  exact Calls.evalArgs_plain h

theorem EvE.call_builtin (B : Bs h₁ mg mb) {f : Str} {fp pos : Pos} {e : Expr} {es : List Expr} {id : String} {ds : List D} {d : D} (hk : sc.names.lookup f = some .globalImplicit) (hg : Glob mg mb f (.builtin id))
    (ha : EvL prog w h₁ n sc σ (e :: es) ds) (hc : CallE prog w h₁ n (.builtin id) ds d) (hd : (f == ("__debug__" : Str)) = false := by decide +kernel)
    (he : ∀ env, starEach (e :: es) env = (false, eval e env) :: starEach es env := by intro _; rfl) (hst : ∀ env, (starEach (e :: es) env).any (·.1) = false := by intro _; rfl) :
    EvE prog w h₁ n sc σ (.Call (.Name f fp) (e :: es) [] pos) d := fun A E env F s g rm hs I => by
  show wpAny _ A (eval (.Name f fp) env >>= fun v => callWith pos v [] (backTo pos (starEach (e :: es) env)) []) _ E s
  refine wpAny_bind (name_glob B I (hs ▸ hk) hg ?_ hd)
  refine Calls.callWith_builtin (args_any _ _ (hst env)) (evalArgs_of (wpAny_mono (ha A E env F s g pos rm hs I) (fun vs s₁ ⟨g₁, G₁, r₁⟩ => ?_) fun _ _ x => x) (he env))
  exact wpAny_mono (hc A E s₁ g₁ vs rm (I.grow' G₁).wf r₁) (fun v s₂ ⟨g₂, G₂, r₂⟩ => ⟨g₂, G₁.trans G₂, r₂⟩) fun _ _ x => x
theorem EvE.call_type (B : Bs h₁ mg mb) {f : Str} {fp pos : Pos} {e : Expr} {es : List Expr} {id : String} {ds : List D} {d : D} (hk : sc.names.lookup f = some .globalImplicit) (hg : Glob mg mb f (.type id))
    (ha : EvL prog w h₁ n sc σ (e :: es) ds) (hc : CallE prog w h₁ n (.type id) ds d) (hd : (f == ("__debug__" : Str)) = false := by decide +kernel)
    (he : ∀ env, starEach (e :: es) env = (false, eval e env) :: starEach es env := by intro _; rfl) (hst : ∀ env, (starEach (e :: es) env).any (·.1) = false := by intro _; rfl) :
    EvE prog w h₁ n sc σ (.Call (.Name f fp) (e :: es) [] pos) d := fun A E env F s g rm hs I => by
  show wpAny _ A (eval (.Name f fp) env >>= fun v => callWith pos v [] (backTo pos (starEach (e :: es) env)) []) _ E s
  refine wpAny_bind (name_glob B I (hs ▸ hk) hg ?_ hd)
  refine PySem.callWith_type (args_any _ _ (hst env)) (evalArgs_of (wpAny_mono (ha A E env F s g pos rm hs I) (fun vs s₁ ⟨g₁, G₁, r₁⟩ => ?_) fun _ _ x => x) (he env))
  exact wpAny_mono (hc A E s₁ g₁ vs rm (I.grow' G₁).wf r₁) (fun v s₂ ⟨g₂, G₂, r₂⟩ => ⟨g₂, G₁.trans G₂, r₂⟩) fun _ _ x => x
theorem EvE.call_fn (B : Bs h₁ mg mb) {f : Str} {fp pos : Pos} {e : Expr} {es : List Expr} {a : Addr} {o : Obj} {fd : FuncData} {ds : List D} {d : D} (hk : sc.names.lookup f = some .globalImplicit) (hg : Glob mg mb f (.ref a))
    (ho : h₁.get? a = some o) (hf : o.data = .func fd)
    (ha : EvL prog w h₁ n sc σ (e :: es) ds) (hc : CallE prog w h₁ n (.ref a) ds d) (hd : (f == ("__debug__" : Str)) = false := by decide +kernel)
    (he : ∀ env, starEach (e :: es) env = (false, eval e env) :: starEach es env := by intro _; rfl) :
    EvE prog w h₁ n sc σ (.Call (.Name f fp) (e :: es) [] pos) d := fun A E env F s g rm hs I => by
  show wpAny _ A (eval (.Name f fp) env >>= fun v => callWith pos v [] (backTo pos (starEach (e :: es) env)) []) _ E s
  refine wpAny_bind (name_glob B I (hs ▸ hk) hg ?_ hd)
  refine Calls.callWith_function (o := o) (fd := fd) (evalArgs_of (wpAny_mono (ha A E env F s g pos rm hs I) (fun vs s₁ ⟨g₁, G₁, r₁⟩ => ⟨⟨(I.grow' G₁).wf.keep1 _ _ ho, hf⟩, ?_⟩) fun _ _ x => x) (he env))
  exact wpAny_mono (hc A E s₁ g₁ vs rm (I.grow' G₁).wf r₁) (fun v s₂ ⟨g₂, G₂, r₂⟩ => ⟨g₂, G₁.trans G₂, r₂⟩) fun _ _ x => x

/-- the method name of d is the builtin id -/
noncomputable def MethE (h₁ : Heap) (d : D) (name : Str) (id : String) : Prop :=
  ∀ (prog : Program) (w : World) (A : Around) (E : Value → Shared → Prop) (s : Shared) (g : Gh) (v : Value) (pl : Sem Bool) (Q : Value × List Value → Shared → Prop), Wf h₁ s g → Rd g v d → Q (.builtin id, [v]) s →
    wpAny (model prog w) A (getMethod v name pl) Q E s

theorem EvE.meth {o e : Expr} {es : List Expr} {name : Str} {apos pos : Pos} {d₀ d : D} {ds : List D} {id : String} (ho : EvE prog w h₁ n sc σ o d₀) (ha : EvL prog w h₁ n sc σ (e :: es) ds)
    (hm : MethE h₁ d₀ name id) (hc : CallE prog w h₁ n (.builtin id) (d₀ :: ds) d)
    (hb : ∀ env whole, attributeBase o name env whole = whole := by intro _ _; rfl) (hp : ∀ env, methodCallPos true o env apos pos = pure pos := by intro _; rfl)
    (he : ∀ env, starEach (e :: es) env = (false, eval e env) :: starEach es env := by intro _; rfl) (hst : ∀ env, (starEach (e :: es) env).any (·.1) = false := by intro _; rfl)
    (hn : ∀ env, methodCallForm ((e :: es).length + 0) (backTo pos (starEach (e :: es) env)) [] = true := by intro _; rfl) :
    EvE prog w h₁ n sc σ (.Call (.Attribute o name apos) (e :: es) [] pos) d := fun A E env F s g rm hs I => by
  rw [arm_eval_Call, hb]
  refine wpAny_bind (wpAny_mono (ho A E env F s g rm hs I) (fun v s₁ ⟨g₁, G₁, r₁⟩ => ?_) fun _ _ x => x)
  have I₁ := I.grow' G₁
  refine wpAny_bind (wpAny_standAt ?_)
  show wpAny _ A (methodCall o name apos pos env v ((e :: es).length + 0) (backTo pos (starEach (e :: es) env)) []) _ E s₁
  unfold methodCall
  rw [hn env, hp env]
  refine wpAny_bind (wpAny_holding ?_)
  show wpAny _ A (getMethod v name (do return (← importBound o env).getD true)) _ E s₁
  refine hm prog w A E s₁ g₁ v _ _ I₁.wf r₁ ?_
  refine wpAny_bind (wpAny_pure ?_)
  refine Calls.callWith_builtin (args_any _ _ (hst env)) (evalArgs_of (wpAny_mono (ha A E env F s₁ g₁ pos rm hs I₁) (fun vs s₂ ⟨g₂, G₂, r₂⟩ => ?_) fun _ _ x => x) (he env))
  exact wpAny_mono (hc A E s₂ g₂ (v :: vs) rm (I₁.grow' G₂).wf (.cons (r₁.mono (G₂.le I₁.wf.sub)) r₂)) (fun v s₃ ⟨g₃, G₃, r₃⟩ => ⟨g₃, (G₁.trans G₂).trans G₃, r₃⟩) fun _ _ x => x

theorem MethE.join {x : Str} : MethE h₁ (.str x) (Str.ofString "join") "str.join" := fun prog w A E s g v pl Q W r h => by cases r; exact GM.join h
theorem MethE.startswith {x : Str} : MethE h₁ (.str x) (Str.ofString "startswith") "str.startswith" := fun prog w A E s g v pl Q W r h => by cases r; exact GM.startswith h
theorem MethE.endswith {x : Str} : MethE h₁ (.str x) (Str.ofString "endswith") "str.endswith" := fun prog w A E s g v pl Q W r h => by cases r; exact GM.endswith h
theorem MethE.find {x : Str} : MethE h₁ (.str x) (Str.ofString "find") "str.find" := fun prog w A E s g v pl Q W r h => by cases r; exact GM.find h
theorem CallE.len_list {ds : List D} (hz : ds.length ≤ 1000) : CallE prog w h₁ n (.builtin "len") [.list ds] (.int ds.length) := fun A E s g vs rm W r => by
  cases r with | cons r1 r2 =>
  cases r2
  cases r1 with | list ha ra =>
  have e := ra.length
  refine PyProof.Rows.len_list ⟨_, W.sub _ _ ha, rfl, _, rfl⟩ (by simp only [List.size_toArray]; omega) ⟨g, Grow.toks W.sub _, ?_⟩
  rw [List.size_toArray, e]; exact .int _ _
theorem CallE.len_xlist {ds : List D} (hz : ds.length ≤ 1000) : CallE prog w h₁ n (.builtin "len") [.xlist ds] (.int ds.length) := fun A E s g vs rm W r => by
  cases r with | cons r1 r2 =>
  cases r2
  cases r1 with | xlist ha hc hd ra =>
  have e := ra.length
  refine PyProof.Rows.len_list ⟨_, W.sub _ _ ha, hc, _, hd⟩ (by simp only [List.size_toArray]; omega) ⟨g, Grow.toks W.sub _, ?_⟩
  rw [List.size_toArray, e]; exact .int _ _
theorem CallE.len_str {x : Str} (hz : x.length ≤ 1000) : CallE prog w h₁ n (.builtin "len") [.str x] (.int x.length) := fun A E s g vs rm W r => by
  cases r with | cons r1 r2 =>
  cases r2
  cases r1
  exact PySem.P.len_str (by omega) ⟨g, Grow.toks W.sub _, .int _ _⟩
theorem CallE.range {k : Nat} : CallE prog w h₁ n (.type "range") [.int k] (.rng k) := fun A E s g vs rm W r => by
  cases r with | cons r1 r2 =>
  cases r2
  cases r1
  exact PySem.call_range_1 ⟨_, Grow.push W.sub _ rfl _, .rng (Gh.add_self _ _ _)⟩
theorem CallE.min_int {a b : Int} : CallE prog w h₁ n (.builtin "min") [.int a, .int b] (.int (if b < a then b else a)) := fun A E s g vs rm W r => by
  cases r with | cons r1 r2 =>
  cases r2 with | cons r2 r3 =>
  cases r3
  cases r1
  cases r2
  refine PySem.min_two_ints rm.handled fun h' tk hk => ⟨g, Grow.kept W.sub hk rfl rfl, ?_⟩
  split
  · exact .int _ _
  · exact .int _ _
end
end Mine
end

-- part MStm
section

open PySem PySem.W PyProof.Rows
set_option linter.unusedVariables false
set_option maxRecDepth 100000
namespace Mine

/-- the entry of x becomes d -/
inductive Set1 (x : Str) (d : D) : List (Str × D) → List (Str × D) → Prop
  | here {d' : D} {r : List (Str × D)} : Set1 x d ((x, d') :: r) ((x, d) :: r)
  | there {p : Str × D} {r r' : List (Str × D)} : Set1 x d r r' → Set1 x d (p :: r) (p :: r')
theorem Set1.names {x : Str} {d : D} {σ σ' : List (Str × D)} (h : Set1 x d σ σ') : σ'.map (·.1) = σ.map (·.1) := by
  induction h with
  | here => rfl
  | there _ ih => simp only [List.map_cons, ih]
theorem Set1.in_names {x : Str} {d : D} {σ σ' : List (Str × D)} (h : Set1 x d σ σ') : x ∈ σ.map (·.1) := by
  induction h with
  | here => simp
  | there _ ih => exact List.mem_cons_of_mem _ ih
theorem Set1.mem {x : Str} {d : D} {σ σ' : List (Str × D)} (h : Set1 x d σ σ') (hn : (σ.map (·.1)).Nodup) : ∀ y e, (y, e) ∈ σ' → (y = x ∧ e = d) ∨ ((y, e) ∈ σ ∧ y ≠ x) := by
  induction h with
  | here =>
    intro y e hm
    rcases List.mem_cons.mp hm with q | q
    · cases q; exact .inl ⟨rfl, rfl⟩
    · refine .inr ⟨.tail _ q, fun hy => ?_⟩
      subst hy
      rw [List.map_cons, List.nodup_cons] at hn
      exact hn.1 (List.mem_map_of_mem (f := (·.1)) q)
  | there h' ih =>
    intro y e hm
    rw [List.map_cons, List.nodup_cons] at hn
    rcases List.mem_cons.mp hm with q | q
    · subst q
      refine .inr ⟨.head _, fun hy => ?_⟩
      exact hn.1 (hy ▸ h'.in_names)
    · exact (ih hn.2 y e q).imp id fun ⟨a, b⟩ => ⟨.tail _ a, b⟩

inductive Oc where
  | next (σ : List (Str × D))
  | ret (d : D)

structure Own (env : Env) (F : Fx) : Prop where
  new : ∀ x c, env.cells.lookup x = some c → F.s₀.heap.get? c = none ∧ F.K c = none
  has : ∀ x, env.kindOf x = some .cell → (env.cells.lookup x).isSome = true
noncomputable abbrev KindS (sc : Scope) (x : Str) : Prop := sc.names.lookup x = some .local ∨ sc.names.lookup x = some .cell
theorem KindS.ok {sc : Scope} {x : Str} {env : Env} {F : Fx} (h : KindS sc x) (hs : env.scope = sc) (ow : Own env F) : env.kindOf x = some .local ∨ (env.kindOf x = some .cell ∧ (env.cells.lookup x).isSome = true ∧ Own env F) := by
  subst hs
  exact h.imp id fun h => ⟨h, ow.has x h, ow⟩

noncomputable def Post (h₁ : Heap) (env : Env) (F : Fx) (o : Oc) (fl : Flow) (s' : Shared) : Prop :=
  ∃ g', match o with
    | .next σ' => fl = .next ∧ Inv h₁ env σ' F s' g'
    | .ret d => ∃ v, fl = .ret v ∧ Grow F.s₀ F.g₀ s' g' ∧ Rd g' v d ∧ (∀ a o, F.K a = some o → s'.heap.get? a = some o) ∧ (∀ (i : Nat) (st : GenState), F.Kg i = some st → s'.gens[i]? = some st)

section
variable (prog : Program) (w : World) (h₁ : Heap)
noncomputable def ExS (n : Nat) (sc : Scope) (σ : List (Str × D)) (st : Stmt) (o : Oc) : Prop :=
  ∀ (A : Around) (E : Value → Shared → Prop) (env : Env) (F : Fx) (s : Shared) (g : Gh), Room n A → env.scope = sc → Own env F → Inv h₁ env σ F s g →
    wpAny (model prog w) A (exec st env) (Post h₁ env F o) E s
noncomputable def ExL (n : Nat) (sc : Scope) (σ : List (Str × D)) (b : List Stmt) (o : Oc) : Prop :=
  ∀ (A : Around) (E : Value → Shared → Prop) (env : Env) (F : Fx) (s : Shared) (g : Gh), Room n A → env.scope = sc → Own env F → Inv h₁ env σ F s g →
    wpAny (model prog w) A (execs b env) (Post h₁ env F o) E s
end

section
variable {prog : Program} {w : World} {h₁ : Heap} {n : Nat} {sc : Scope} {σ σ' : List (Str × D)}

theorem ExL.nil : ExL prog w h₁ n sc σ [] (.next σ) := fun A E env F s g rm hs ow I => wpAny_execs_nil ⟨g, rfl, I⟩
theorem ExL.cons {st : Stmt} {rest : List Stmt} {o : Oc} (h : ExS prog w h₁ n sc σ st (.next σ')) (hr : ExL prog w h₁ n sc σ' rest o) : ExL prog w h₁ n sc σ (st :: rest) o := fun A E env F s g rm hs ow I => by
  rw [execs_cons]
  refine wpAny_bind (wpAny_mono (h A E env F s g rm hs ow I) (fun fl s₁ ⟨g₁, e, I₁⟩ => ?_) fun _ _ x => x)
  subst e
  exact hr A E env F s₁ g₁ rm hs ow I₁
theorem ExL.ret {st : Stmt} {rest : List Stmt} {d : D} (h : ExS prog w h₁ n sc σ st (.ret d)) : ExL prog w h₁ n sc σ (st :: rest) (.ret d) := fun A E env F s g rm hs ow I => by
  rw [execs_cons]
  refine wpAny_bind (wpAny_mono (h A E env F s g rm hs ow I) (fun fl s₁ ⟨g₁, v, e, p⟩ => ?_) fun _ _ x => x)
  subst e
  exact wpAny_pure ⟨g₁, v, rfl, p⟩
theorem ExS.return_ {e : Expr} {pos : Pos} {d : D} (h : EvE prog w h₁ n sc σ e d) : ExS prog w h₁ n sc σ (.Return (some e) pos) (.ret d) := fun A E env F s g rm hs ow I =>
  wpAny_Return_some (wpAny_mono (h A E env F s g rm hs I) (fun v s₁ ⟨g₁, G₁, r₁⟩ => ⟨g₁, v, rfl, I.grow.trans G₁, r₁, (I.grow' G₁).prot, (I.grow' G₁).protG⟩) fun _ _ x => x)
theorem ExS.if_true {t : Expr} {b o : List Stmt} {pos : Pos} {oc : Oc} (h : EvB prog w h₁ n sc σ t true) (hb : ExL prog w h₁ n sc σ b oc) : ExS prog w h₁ n sc σ (.If t b o pos) oc := fun A E env F s g rm hs ow I =>
  wpAny_If (wpAny_mono (h A E env F s g rm hs I) (fun r s₁ ⟨e, g₁, G₁⟩ => by subst e; exact hb A E env F s₁ g₁ rm hs ow (I.grow' G₁)) fun _ _ x => x)
theorem ExS.if_false {t : Expr} {b o : List Stmt} {pos : Pos} {oc : Oc} (h : EvB prog w h₁ n sc σ t false) (hb : ExL prog w h₁ n sc σ o oc) : ExS prog w h₁ n sc σ (.If t b o pos) oc := fun A E env F s g rm hs ow I =>
  wpAny_If (wpAny_mono (h A E env F s g rm hs I) (fun r s₁ ⟨e, g₁, G₁⟩ => by subst e; exact hb A E env F s₁ g₁ rm hs ow (I.grow' G₁)) fun _ _ x => x)
theorem ExS.assert_ {t : Expr} {m : Option Expr} {pos : Pos} (h : EvB prog w h₁ n sc σ t true) : ExS prog w h₁ n sc σ (.Assert t m pos) (.next σ) := fun A E env F s g rm hs ow I =>
  wpAny_Assert_holds (wpAny_mono (h A E env F s g rm hs I) (fun r s₁ ⟨e, g₁, G₁⟩ => ⟨e, g₁, rfl, I.grow' G₁⟩) fun _ _ x => x)
theorem ExL.weak {b : List Stmt} {oc : Oc} (h : Weak σ σ') (hb : ExL prog w h₁ n sc σ' b oc) : ExL prog w h₁ n sc σ b oc := fun A E env F s g rm hs ow I => hb A E env F s g rm hs ow (I.weak h)
/-- one object is changed that is neither frozen nor protected; what is left to say is said of the names -/
theorem Inv.touch {env : Env} {F : Fx} {s s' : Shared} {g : Gh} {a : Addr} (I : Inv h₁ env σ F s g) (hk : ∀ b o, b ≠ a → s.heap.get? b = some o → s'.heap.get? b = some o)
    (hg : g a = none) (h0 : F.s₀.heap.get? a = none) (hK : F.K a = none) (hos : s'.os = s.os) (hgens : s'.gens = s.gens)
    (hcell : ∀ x c, env.cells.lookup x = some c → ∃ v, s'.heap.IsCell c v) (hnd : (σ'.map (·.1)).Nodup)
    (hv : ∃ (m : Str → Option Value) (ρ : Str → Value), s'.heap.Ns env.locals m ∧
      (∀ x d, (x, d) ∈ σ' → (d ≠ .unset → HasVal env m s'.heap x (ρ x)) ∧ Bnd F g s'.heap (ρ x) d) ∧
      (∀ x y xs ys, (x, D.mlist xs) ∈ σ' → (y, D.mlist ys) ∈ σ' → x ≠ y → ρ x ≠ ρ y)) : Inv h₁ env σ' F s' g :=
  { wf := ⟨fun b o e => hk b o (fun q => by rw [q, hg] at e; cases e) (I.wf.sub b o e), I.wf.base⟩
    grow := ⟨fun b o e => hk b o (ne_of_get e h0) (I.grow.keep b o e), I.grow.old, fun b o e => hk b o (fun q => by rw [q, hg] at e; cases e) (I.wf.sub b o e), hos.trans I.grow.os,
      fun i st e => by rw [hgens]; exact I.grow.gens i st e, fun i st e => I.grow.bare i st (by rw [hgens] at e; exact e)⟩
    prot := fun b o e => hk b o (fun q => by rw [q, hK] at e; cases e) (I.prot b o e)
    protG := fun i st e => by rw [hgens]; exact I.protG i st e
    protF := I.protF
    protN := I.protN
    fn := I.fn, gl := I.gl, bl := I.bl, loc0 := I.loc0, locG := I.locG
    cellG := fun x c e => ⟨(I.cellG x c e).1, hcell x c e⟩
    cellInj := I.cellInj, nodup := hnd, vals := hv }

theorem Heap.Ns.ne_cell {h : Heap} {a c : Addr} {m : Str → Option Value} {v : Option Value} (hn : h.Ns a m) (hc : h.IsCell c v) : c ≠ a := fun q => by
  obtain ⟨o, es, ep, ho, hd, _⟩ := hn
  obtain ⟨o', ho', hd'⟩ := hc
  subst q
  rw [ho] at ho'
  cases ho'
  rw [hd] at hd'
  cases hd'

/-- storing a value at a name; its entry becomes d -/
theorem Inv.store {A : Around} {E : Value → Shared → Prop} {env : Env} {F : Fx} {s : Shared} {g : Gh} {x : Str} {v : Value} {d : D} (I : Inv h₁ env σ F s g)
    (hset : Set1 x d σ σ') (hb : Bnd F g s.heap v d) (hdist : ∀ y xs ys, d = .mlist xs → (y, D.mlist ys) ∈ σ → y ≠ x → ∀ u, Bnd F g s.heap u (.mlist ys) → ∀ m, HasVal env m s.heap y u → s.heap.Ns env.locals m → u ≠ v)
    (hk : env.kindOf x = some .local ∨ (env.kindOf x = some .cell ∧ (env.cells.lookup x).isSome = true ∧ Own env F)) :
    wpAny (model prog w) A (storeName env x v) (fun _ s' => Inv h₁ env σ' F s' g) E s := by
  obtain ⟨m, ρ, hn, hv, hm⟩ := I.vals
  have hmem := hset.mem I.nodup
  have hnd : (σ'.map (·.1)).Nodup := by rw [hset.names]; exact I.nodup
  have hdist' : ∀ y z ys zs, (y, D.mlist ys) ∈ σ' → (z, D.mlist zs) ∈ σ' → y ≠ z → (if y = x then v else ρ y) ≠ (if z = x then v else ρ z) := by
    intro y z ys zs hy hz hyz
    rcases hmem _ _ hy with ⟨h1, h2⟩ | ⟨h1, h2⟩ <;> rcases hmem _ _ hz with ⟨h3, h4⟩ | ⟨h3, h4⟩
    · exact absurd (h1.trans h3.symm) hyz
    · rw [if_pos h1, if_neg h4]
      exact fun q => hdist z ys zs h2.symm h3 h4 (ρ z) (hv _ _ h3).2 m ((hv _ _ h3).1 (by intro q; cases q)) hn q.symm
    · rw [if_neg h2, if_pos h3]
      exact fun q => hdist y zs ys h4.symm h1 h2 (ρ y) (hv _ _ h1).2 m ((hv _ _ h1).1 (by intro q; cases q)) hn q
    · rw [if_neg h2, if_neg h4]; exact hm y z ys zs h1 h3 hyz
  have hkind : ∀ y : Str, y ≠ x → y ≠ x := fun _ h => h
  rcases hk with hl | ⟨hl, hc, ow⟩
  · refine wpAny_storeName_local hl hn (fun h' hn' hsame => ?_) (by rw [I.fn]; rfl)
    have hmlist : ∀ {u : Value} {e : D}, Bnd F g s.heap u e → Bnd F g h' u e := by
      intro u e hb
      cases e with
      | mlist xs =>
        obtain ⟨a, vs, k, rfl, h0, hg, ho, hr⟩ := hb
        refine ⟨a, vs, k, rfl, h0, hg, hsame.extBut a _ (fun q => ?_) ho, hr⟩
        obtain ⟨o, es, ep, ho', hd', _⟩ := hn
        rw [q, ho'] at ho
        cases ho
        cases hd'
      | _ => exact hb
    refine I.touch (a := env.locals) (s' := { s with heap := h', toks := s.toks + 1 }) (fun b o hb e => hsame.extBut b o hb e) I.locG I.loc0.1 I.loc0.2 rfl rfl
      (fun y c e => let ⟨_, u, hu⟩ := I.cellG y c e; ⟨u, hu.sameBut hsame (Heap.Ns.ne_cell hn hu)⟩) hnd ⟨_, fun y => if y = x then v else ρ y, hn', fun y e hy => ?_, hdist'⟩
    rcases hmem y e hy with ⟨rfl, rfl⟩ | ⟨hy', hne⟩
    · refine ⟨fun _ => .inl ⟨hl, by simp⟩, ?_⟩
      dsimp only; rw [if_pos rfl]; exact hmlist hb
    · dsimp only; rw [if_neg hne]
      refine ⟨fun hu => ?_, hmlist (hv y e hy').2⟩
      rcases (hv y e hy').1 hu with ⟨a1, a2⟩ | ⟨a1, c, a2, a3⟩
      · exact .inl ⟨a1, by simp [hne, a2]⟩
      · exact .inr ⟨a1, c, a2, a3.sameBut hsame (Heap.Ns.ne_cell hn a3)⟩
  · obtain ⟨c, hc⟩ := Option.isSome_iff_exists.mp hc
    obtain ⟨hgc, v₀, hv₀⟩ := I.cellG x c hc
    refine wpAny_storeName_cell I.fn hl hc hv₀ (fun h' hv' hsame => ?_)
    have hcl : c ≠ env.locals := Heap.Ns.ne_cell hn hv₀
    have hmlist : ∀ {u : Value} {e : D}, Bnd F g s.heap u e → Bnd F g h' u e := by
      intro u e hb
      cases e with
      | mlist xs =>
        obtain ⟨a, vs, k, rfl, h0, hg, ho, hr⟩ := hb
        refine ⟨a, vs, k, rfl, h0, hg, hsame.extBut a _ (fun q => ?_) ho, hr⟩
        obtain ⟨o, ho', hd'⟩ := hv₀
        rw [q, ho'] at ho
        cases ho
        cases hd'
      | _ => exact hb
    refine I.touch (a := c) (s' := { s with heap := h' }) (fun b o hb e => hsame.extBut b o hb e) hgc (ow.new x c hc).1 (ow.new x c hc).2 rfl rfl
      (fun y c' e => by
        by_cases hcc : c' = c
        · subst hcc; exact ⟨_, hv'⟩
        · obtain ⟨_, u, hu⟩ := I.cellG y c' e
          exact ⟨u, hu.sameBut hsame hcc⟩) hnd ⟨m, fun y => if y = x then v else ρ y, hn.sameBut hsame (Ne.symm hcl), fun y e hy => ?_, hdist'⟩
    rcases hmem y e hy with ⟨rfl, rfl⟩ | ⟨hy', hne⟩
    · refine ⟨fun _ => .inr ⟨.inl hl, c, hc, ?_⟩, ?_⟩
      · dsimp only; rw [if_pos rfl]; exact hv'
      · dsimp only; rw [if_pos rfl]; exact hmlist hb
    · dsimp only; rw [if_neg hne]
      refine ⟨fun hu => ?_, hmlist (hv y e hy').2⟩
      rcases (hv y e hy').1 hu with ⟨a1, a2⟩ | ⟨a1, c', a2, a3⟩
      · exact .inl ⟨a1, a2⟩
      · exact .inr ⟨a1, c', a2, a3.sameBut hsame (fun q => hne (I.cellInj y x c (q ▸ a2) hc))⟩

theorem Inv.store_rd {A : Around} {E : Value → Shared → Prop} {env : Env} {F : Fx} {s : Shared} {g : Gh} {x : Str} {v : Value} {d : D} (I : Inv h₁ env σ F s g)
    (hset : Set1 x d σ σ') (hb : Rd g v d) (hk : env.kindOf x = some .local ∨ (env.kindOf x = some .cell ∧ (env.cells.lookup x).isSome = true ∧ Own env F)) :
    wpAny (model prog w) A (storeName env x v) (fun _ s' => Inv h₁ env σ' F s' g) E s :=
  I.store hset (.of_rd hb) (fun y xs ys q => by subst q; cases hb) hk
end
end Mine
end

-- part MStm2
section

open PySem PySem.W PyProof.Rows
set_option linter.unusedVariables false
set_option maxRecDepth 100000
namespace Mine
section
variable {prog : Program} {w : World} {h₁ : Heap} {n : Nat} {sc : Scope} {σ σ' σ'' : List (Str × D)}

theorem ExS.assign {x : Str} {px pos : Pos} {e : Expr} {d : D} (h : EvE prog w h₁ n sc σ e d) (hset : Set1 x d σ σ') (hk : KindS sc x)
    (hs : ∀ env, swapsWith e (some (.Name x px)) pos.line env = pure false := by intro _; rfl) : ExS prog w h₁ n sc σ (.Assign [.Name x px] e pos) (.next σ') := fun A E env F s g rm hsc ow I =>
  wpAny_Assign_Name (wpAny_mono (h A E env F s g rm hsc I) (fun v s₁ ⟨g₁, G₁, r₁⟩ =>
    wpAny_mono ((I.grow' G₁).store_rd hset r₁ (hk.ok hsc ow)) (fun _ s₂ I₂ => ⟨g₁, rfl, I₂⟩) fun _ _ x => x) fun _ _ x => x) (hs env)

theorem KeptBy.inv {env : Env} {F : Fx} {s : Shared} {g : Gh} {h' : Heap} (I : Inv h₁ env σ F s g) (he : Heap.ExtBut s.heap.objs.size s.heap h') : Grow s g { s with heap := h' } g :=
  Grow.kept I.wf.sub (fun a o e => he a o (Nat.ne_of_lt (Heap.lt_size e)) e) rfl rfl

/-- two names at once, stored in order -/
theorem ExS.assign2 {x y : Str} {px py tp pos : Pos} {k : Nat} {e : Expr} {d₁ d₂ : D} (h : EvE prog w h₁ n sc σ e (.tuple [d₁, d₂])) (h1 : Set1 x d₁ σ σ') (h2 : Set1 y d₂ σ' σ'') (kx : KindS sc x) (ky : KindS sc y)
    (hs : ∀ env, swapsWithSole [.Tuple [.Name x px, .Name y py] k tp] e pos.line env = pure false := by intro _; rfl)
    (hw : ∀ env, env.scope = sc → swappedStores [.Tuple [.Name x px, .Name y py] k tp] e env = pure none) :
    ExS prog w h₁ n sc σ (.Assign [.Tuple [.Name x px, .Name y py] k tp] e pos) (.next σ'') := fun A E env F s g rm hsc ow I => by
  refine Assign_Tuple (wpAny_mono (h A E env F s g rm hsc I) (fun v s₁ ⟨g₁, G₁, r₁⟩ => ?_) fun _ _ x => x) (hs env) (hw env hsc)
  have I₁ := I.grow' G₁
  cases r₁ with | @tuple a vs m _ ha ra =>
  cases ra with | @cons v₁ _ _ _ ra1 ra2 =>
  cases ra2 with | @cons v₂ _ _ _ ra2 ra3 =>
  cases ra3
  rw [arm_assign_Tuple]
  refine wpAny_bind (wpAny_standAt ?_)
  refine wpAny_unpack_tuple rm.handled (items := #[v₁, v₂]) ⟨_, I₁.wf.sub _ _ ha, rfl, m, rfl⟩ rfl rfl fun h' he => ?_
  have G₂ := KeptBy.inv I₁ he
  have I₂ := I₁.grow' G₂
  show wpAny _ A (do holding [v₂] (PySem.assign (.Name x px) env v₁); assignInOrder [PySem.assign (.Name y py) env] [v₂]) _ E _
  refine wpAny_bind (wpAny_holding (wpAny_assign_Name (wpAny_mono (I₂.store_rd h1 ra1 (kx.ok hsc ow)) (fun _ s₃ I₃ => ?_) fun _ _ x => x)))
  show wpAny _ A (do holding [] (PySem.assign (.Name y py) env v₂); pure ()) _ E _
  exact wpAny_bind (wpAny_holding (wpAny_assign_Name (wpAny_mono (I₃.store_rd h2 ra2 (ky.ok hsc ow)) (fun _ s₄ I₄ => wpAny_pure ⟨g₁, rfl, I₄⟩) fun _ _ x => x)))
/-- two names at once, the second stored first -/
theorem ExS.assign2s {x y : Str} {px py tp pos : Pos} {k : Nat} {e : Expr} {d₁ d₂ : D} (h : EvE prog w h₁ n sc σ e (.tuple [d₁, d₂])) (h1 : Set1 y d₂ σ σ') (h2 : Set1 x d₁ σ' σ'') (kx : KindS sc x) (ky : KindS sc y)
    (hs : ∀ env, swapsWithSole [.Tuple [.Name x px, .Name y py] k tp] e pos.line env = pure false := by intro _; rfl)
    (hw : ∀ env, env.scope = sc → swappedStores [.Tuple [.Name x px, .Name y py] k tp] e env = pure (some [x, y])) :
    ExS prog w h₁ n sc σ (.Assign [.Tuple [.Name x px, .Name y py] k tp] e pos) (.next σ'') := fun A E env F s g rm hsc ow I => by
  refine Assign_Tuple_swapped (names := [x, y]) (wpAny_mono (h A E env F s g rm hsc I) (fun v s₁ ⟨g₁, G₁, r₁⟩ => ?_) fun _ _ x => x) (hs env) (hw env hsc)
  have I₁ := I.grow' G₁
  cases r₁ with | @tuple a vs m _ ha ra =>
  cases ra with | @cons v₁ _ _ _ ra1 ra2 =>
  cases ra2 with | @cons v₂ _ _ _ ra2 ra3 =>
  cases ra3
  refine unpackItems_tuple rm.handled (items := #[v₁, v₂]) ⟨_, I₁.wf.sub _ _ ha, rfl, m, rfl⟩ fun h' he => ?_
  have G₂ := KeptBy.inv I₁ he
  have I₂ := I₁.grow' G₂
  show wpAny _ A (do holding [v₁] (bindName env y v₂); assignInOrder [fun v => bindName env x v] [v₁]) _ E _
  refine wpAny_bind (wpAny_holding (wpAny_bindName (wpAny_mono (I₂.store_rd h1 ra2 (ky.ok hsc ow)) (fun _ s₃ I₃ => ?_) fun _ _ x => x)))
  show wpAny _ A (do holding [] (bindName env x v₁); pure ()) _ E _
  exact wpAny_bind (wpAny_holding (wpAny_bindName (wpAny_mono (I₃.store_rd h2 ra1 (kx.ok hsc ow)) (fun _ s₄ I₄ => wpAny_pure ⟨g₁, rfl, I₄⟩) fun _ _ x => x)))

theorem ExS.aug_add {x : Str} {px pos : Pos} {e : Expr} {a b : Int} (hx : (x, D.int a) ∈ σ) (h : EvE prog w h₁ n sc σ e (.int b)) (hset : Set1 x (.int (a + b)) σ σ') (hk : KindS sc x)
    (hd : (x == ("__classdict__" : Str)) = false := by decide +kernel) :
    ExS prog w h₁ n sc σ (.AugAssign (.Name x px) .Add e pos) (.next σ') := fun A E env F s g rm hsc ow I => by
  obtain ⟨m, ρ, hn, hv, _⟩ := I.vals
  refine wpAny_AugAssign_Name (loadName_of I.fn hn ((hv x _ hx).1 (by intro q; cases q)) ?_ hd)
  have hr := (hv x _ hx).2.rd (by intro _ q; cases q) (by intro q; cases q)
  generalize ρ x = v at hr
  cases hr
  refine wpAny_mono (h A E env F s g rm hsc I) (fun v s₁ ⟨g₁, G₁, r₁⟩ => ?_) fun _ _ x => x
  cases r₁
  have I₁ := I.grow' G₁
  refine PyProof.Rows.iadd_int ?_
  exact wpAny_mono ((I₁.grow' (Grow.toks I₁.wf.sub _)).store_rd hset (.int _ _) (hk.ok hsc ow)) (fun _ s₂ I₂ => ⟨g₁, rfl, I₂⟩) fun _ _ x => x
theorem ExS.aug_sub {x : Str} {px pos : Pos} {e : Expr} {a b : Int} (hx : (x, D.int a) ∈ σ) (h : EvE prog w h₁ n sc σ e (.int b)) (hset : Set1 x (.int (a - b)) σ σ') (hk : KindS sc x)
    (hd : (x == ("__classdict__" : Str)) = false := by decide +kernel) :
    ExS prog w h₁ n sc σ (.AugAssign (.Name x px) .Sub e pos) (.next σ') := fun A E env F s g rm hsc ow I => by
  obtain ⟨m, ρ, hn, hv, _⟩ := I.vals
  refine wpAny_AugAssign_Name (loadName_of I.fn hn ((hv x _ hx).1 (by intro q; cases q)) ?_ hd)
  have hr := (hv x _ hx).2.rd (by intro _ q; cases q) (by intro q; cases q)
  generalize ρ x = v at hr
  cases hr
  refine wpAny_mono (h A E env F s g rm hsc I) (fun v s₁ ⟨g₁, G₁, r₁⟩ => ?_) fun _ _ x => x
  cases r₁
  have I₁ := I.grow' G₁
  refine PySem.P.isub_int ?_
  exact wpAny_mono ((I₁.grow' (Grow.toks I₁.wf.sub _)).store_rd hset (.int _ _) (hk.ok hsc ow)) (fun _ s₂ I₂ => ⟨g₁, rfl, I₂⟩) fun _ _ x => x

/-- the value of a name that holds a growing list -/
theorem Inv.mlist {env : Env} {F : Fx} {s : Shared} {g : Gh} {x : Str} {xs : List D} (I : Inv h₁ env σ F s g) (hx : (x, D.mlist xs) ∈ σ) :
    ∃ (m : Str → Option Value) (a : Addr) (vs : List Value) (k : Nat), s.heap.Ns env.locals m ∧ HasVal env m s.heap x (.ref a) ∧ (F.s₀.heap.get? a = none ∧ F.K a = none) ∧ g a = none ∧ s.heap.get? a = some (listO vs k) ∧ RdL g vs xs ∧
      (∀ (a' : Addr) (vs' : List Value) (k' : Nat) (xs' : List D) (h' : Heap), (∀ b o, b ≠ a → s.heap.get? b = some o → h'.get? b = some o) → h'.get? a = some (listO vs' k') → RdL g vs' xs' → Set1 x (.mlist xs') σ σ' →
        Inv h₁ env σ' F { s with heap := h' } g) := by
  obtain ⟨m, ρ, hn, hv, hm⟩ := I.vals
  obtain ⟨h1, a, vs, k, e, h0, hg, ho, hr⟩ := hv x _ hx
  refine ⟨m, a, vs, k, hn, e ▸ h1 (by intro q; cases q), h0, hg, ho, hr, fun a' vs' k' xs' h' hk ho' hr' hset => ?_⟩
  have hmem := hset.mem I.nodup
  have hal : env.locals ≠ a := fun q => by
    obtain ⟨o, es, ep, ho2, hd2, _⟩ := hn
    rw [q, ho] at ho2; cases ho2; cases hd2
  have hac : ∀ {c : Addr} {v : Option Value}, s.heap.IsCell c v → c ≠ a := fun hc q => by
    obtain ⟨o, ho2, hd2⟩ := hc
    rw [q, ho] at ho2; cases ho2; cases hd2
  have hcell : ∀ {c : Addr} {v : Option Value}, s.heap.IsCell c v → h'.IsCell c v := fun hc => let ⟨o, ho2, hd2⟩ := hc; ⟨o, hk _ _ (hac hc) ho2, hd2⟩
  refine I.touch (a := a) (s' := { s with heap := h' }) hk hg h0.1 h0.2 rfl rfl (fun y c e => let ⟨_, v, hv⟩ := I.cellG y c e; ⟨v, hcell hv⟩) (by rw [hset.names]; exact I.nodup)
    ⟨m, ρ, (let ⟨o, es, ep, ho2, r⟩ := hn; ⟨o, es, ep, hk _ _ hal ho2, r⟩), fun y d hy => ?_, fun y z ys zs hy hz hyz => ?_⟩
  · rcases hmem y d hy with ⟨rfl, rfl⟩ | ⟨hy', hne⟩
    · refine ⟨fun _ => ?_, a, vs', k', e, h0, hg, ho', hr'⟩
      rcases h1 (by intro q; cases q) with ⟨q1, q2⟩ | ⟨q1, c, q2, q3⟩
      · exact .inl ⟨q1, q2⟩
      · exact .inr ⟨q1, c, q2, hcell q3⟩
    · refine ⟨fun hu => ?_, ?_⟩
      · rcases (hv y d hy').1 hu with ⟨q1, q2⟩ | ⟨q1, c, q2, q3⟩
        · exact .inl ⟨q1, q2⟩
        · exact .inr ⟨q1, c, q2, hcell q3⟩
      · have hb := (hv y d hy').2
        cases d with
        | mlist ys =>
          have hd := hm y x ys xs hy' hx hne
          obtain ⟨b, ws, j, e2, h02, hg2, ho2, hr2⟩ := hb
          exact ⟨b, ws, j, e2, h02, hg2, hk _ _ (fun q => hd (by rw [e2, e, q])) ho2, hr2⟩
        | _ => exact hb
  · have old : ∀ y ys, (y, D.mlist ys) ∈ σ' → ∃ ys', (y, D.mlist ys') ∈ σ := fun y ys hy => by
      rcases hmem _ _ hy with ⟨rfl, _⟩ | ⟨h, _⟩
      · exact ⟨xs, hx⟩
      · exact ⟨ys, h⟩
    obtain ⟨ys', hy'⟩ := old y ys hy
    obtain ⟨zs', hz'⟩ := old z zs hz
    exact hm y z ys' zs' hy' hz' hyz

/-- x.append(e) -/
theorem ExS.append {x : Str} {px ap pos pos' : Pos} {e : Expr} {xs : List D} {d : D} (hx : (x, D.mlist xs) ∈ σ) (h : EvE prog w h₁ n sc σ e d) (hset : Set1 x (.mlist (xs ++ [d])) σ σ') (hz : xs.length ≤ 1000)
    (hp : ∀ env, methodCallPos true (.Name x px) env ap pos = pure pos := by intro _; rfl) (he : ∀ env, starEach [e] env = [(false, eval e env)] := by intro _; rfl)
    (hi : ∀ env, env.scope = sc → interactive env = false := by intro env h; cases env; cases h; rfl)
    (hd : ((x == ("__debug__" : Str)) || (x == ("__classdict__" : Str))) = false := by decide +kernel) :
    ExS prog w h₁ n sc σ (.Expr (.Call (.Attribute (.Name x px) (Str.ofString "append") ap) [e] [] pos) pos') (.next σ') := fun A E env F s g rm hsc ow I => by
  have hd' := Bool.or_eq_false_iff.mp hd
  refine wpAny_Expr ?_ (hi env hsc)
  obtain ⟨m, a, vs, k, hn, hv, h0, hg, ho, hr, upd⟩ := I.mlist (σ' := σ') hx
  rw [arm_eval_Call]
  refine wpAny_bind (wpAny_Name (loadName_of I.fn hn hv ?_ hd'.2) hd'.1)
  refine wpAny_bind (wpAny_standAt ?_)
  show wpAny _ A (methodCall (.Name x px) (Str.ofString "append") ap pos env (.ref a) 1 (backTo pos (starEach [e] env)) []) _ E s
  unfold methodCall
  have hf : methodCallForm 1 (backTo pos (starEach [e] env)) [] = true := by rw [he]; rfl
  rw [hf, hp]
  refine wpAny_bind (wpAny_holding ?_)
  show wpAny _ A (getMethod (.ref a) (Str.ofString "append") (do return (← importBound (.Name x px) env).getD true)) _ E s
  refine Calls.getMethod_list_append ho rfl rfl ?_
  refine wpAny_bind (wpAny_pure ?_)
  have hev : EvL prog w h₁ n sc σ [e] [d] := EvL.cons h EvL.nil he
  refine Calls.callWith_builtin (args_any _ _ (by rw [he]; rfl)) (evalArgs_of (wpAny_mono (hev A E env F s g pos rm hsc I) (fun us s₁ ⟨g₁, G₁, r₁⟩ => ?_) fun _ _ x => x) (he env))
  cases r₁ with | @cons u _ _ _ r1 r2 =>
  cases r2
  have I₁ := I.grow' G₁
  obtain ⟨m₁, a₁, vs₁, k₁, hn₁, hv₁, h0₁, hg₁, ho₁, hr₁, upd₁⟩ := I₁.mlist (σ' := σ') hx
  have haa : a₁ = a := by
    have hn' := hn.keeps G₁.keep
    have hmm : m₁ = m := by
      obtain ⟨o, es, ep, q1, q2, _, q4⟩ := hn₁
      obtain ⟨o', es', ep', q1', q2', _, q4'⟩ := hn'
      rw [q1] at q1'; cases q1'; rw [q2] at q2'; cases q2'
      exact funext fun y => (q4 y).symm.trans (q4' y)
    subst hmm
    rcases hv₁ with ⟨p1, p2⟩ | ⟨p1, c, p2, p3⟩ <;> rcases hv with ⟨r1, r2⟩ | ⟨r1, c', r2, r3⟩
    · rw [p2] at r2; cases r2; rfl
    · rcases r1 with r1 | r1 <;> rw [p1] at r1 <;> cases r1
    · rcases p1 with p1 | p1 <;> rw [r1] at p1 <;> cases p1
    · rw [p2] at r2; cases r2
      obtain ⟨o, q1, q2⟩ := p3
      obtain ⟨o', q1', q2'⟩ := r3.keeps G₁.keep
      rw [q1] at q1'; cases q1'; rw [q2] at q2'; cases q2'; rfl
  subst haa
  have hl := hr₁.length
  refine wpAny_list_append_plain (items := vs₁.toArray) ⟨k₁, ho₁⟩ (fun h' hp' hsame => ?_) (by simp only [List.size_toArray]; have : sizeLine = 16777216 := rfl; omega)
  obtain ⟨k', ho'⟩ := hp'
  rw [show vs₁.toArray.push u = (vs₁ ++ [u]).toArray from by simp] at ho'
  exact ⟨g₁, rfl, upd₁ a₁ (vs₁ ++ [u]) k' (xs ++ [d]) h' (fun b o hb e => hsame.extBut b o hb e) ho' (hr₁.append (.cons r1 .nil)) hset⟩
end
end Mine
end

-- part MLoop
section

open PySem PySem.W PyProof.Rows
set_option linter.unusedVariables false
set_option maxRecDepth 100000
namespace Mine

noncomputable def owners : List String := ["enumerate", "zip", "dict_itemiterator", "dict_reverseitemiterator", "odict_iterator", "itertools.zip_longest", "itertools.pairwise"]

/-- an iterator object at a over ds; St i: it stands before item i -/
structure Iter (prog : Program) (w : World) (a : Addr) (ds : List D) (St : Nat → Heap → Gh → Prop) : Prop where
  obj : ∀ i h g, St i h g → ∃ o fs c, h.get? a = some o ∧ o.data = .fields fs ∧ o.cls = .type c ∧ owners.contains c = false
  mono : ∀ i h g h' g', St i h g → (∀ o, h.get? a = some o → h'.get? a = some o) → (∀ b o, g b = some o → g' b = some o) → St i h' g'
  item : ∀ i d (A : Around) (E : Value → Shared → Prop) (s : Shared) (g : Gh) (Q : Option Value → Shared → Prop), A.handled = none → (∀ b o, g b = some o → s.heap.get? b = some o) → St i s.heap g → ds[i]? = some d →
    (∀ v h' tk, Rd g v d → St (i + 1) h' g → (∀ b o, b ≠ a → s.heap.get? b = some o → h'.get? b = some o) → Q (some v) { s with heap := h', toks := tk }) → wpAny (model prog w) A (pyNext (.ref a)) Q E s
  done : ∀ (A : Around) (E : Value → Shared → Prop) (s : Shared) (g : Gh) (Q : Option Value → Shared → Prop), A.handled = none → (∀ b o, g b = some o → s.heap.get? b = some o) → St ds.length s.heap g →
    (∀ h' tk, (∀ b o, b ≠ a → s.heap.get? b = some o → h'.get? b = some o) → Q none { s with heap := h', toks := tk }) → wpAny (model prog w) A (pyNext (.ref a)) Q E s
  self : ∀ i (A : Around) (E : Value → Shared → Prop) (s : Shared) (g : Gh) (Q : Value → Shared → Prop), St i s.heap g → Q (.ref a) s → wpAny (model prog w) A (pyIter (.ref a)) Q E s

noncomputable def IterE (prog : Program) (w : World) (h₁ : Heap) (d : D) (ds : List D) : Prop :=
  ∀ (A : Around) (E : Value → Shared → Prop) (s : Shared) (g : Gh) (v : Value) (Q : Value → Shared → Prop), A.handled = none → Wf h₁ s g → Rd g v d →
    (∀ a h' tk St, Iter prog w a ds St → St 0 h' g → s.heap.get? a = none → (∀ b o, s.heap.get? b = some o → h'.get? b = some o) → Q (.ref a) { s with heap := h', toks := tk }) → wpAny (model prog w) A (pyIter v) Q E s

section
variable {prog : Program} {w : World} {h₁ : Heap} {n : Nat} {sc : Scope} {σ σ' σ'' : List (Str × D)}

theorem Iter.list (a l : Addr) (hne : l ≠ a) (ds : List D) : Iter prog w a ds (fun i h g => h.IsListIter a l i ∧ ∃ vs n, g l = some (listO vs n) ∧ RdL g vs ds) where
  obj := fun i h g ⟨⟨o, ho, hc, hd⟩, _⟩ => ⟨o, _, _, ho, hd, hc, by decide⟩
  mono := fun i h g h' g' ⟨⟨o, ho, r⟩, vs, n, hl, hr⟩ hk hg => ⟨⟨o, hk o ho, r⟩, vs, n, hg _ _ hl, hr.mono hg⟩
  item := fun i d A E s g Q hh hs ⟨hit, vs, n, hl, hr⟩ hx hQ => by
    obtain ⟨v, hv, hrv⟩ := hr.get hx
    exact wpAny_pyNext_list_item hit (items := vs.toArray) ⟨_, hs _ _ hl, rfl, n, rfl⟩ (by simpa using hv) fun h' hit' hsame => hQ v h' s.toks hrv ⟨hit', vs, n, hl, hr⟩ fun b o hb e => hsame.extBut b o hb e
  done := fun A E s g Q hh hs ⟨hit, vs, n, hl, hr⟩ hQ =>
    wpAny_pyNext_list_end hh hit (items := vs.toArray) ⟨_, hs _ _ hl, rfl, n, rfl⟩ (by simp [hr.length]) fun h' he => hQ h' s.toks fun b o hb e => he b o hb e
  self := fun i A E s g Q ⟨hit, _⟩ hQ => wpAny_pyIter_listiter hit hQ
theorem Iter.tuple (a l : Addr) (hne : l ≠ a) (ds : List D) : Iter prog w a ds (fun i h g => h.IsTupleIter a l i ∧ ∃ vs n, g l = some (tupO vs n) ∧ RdL g vs ds) where
  obj := fun i h g ⟨⟨o, ho, hc, hd⟩, _⟩ => ⟨o, _, _, ho, hd, hc, by decide⟩
  mono := fun i h g h' g' ⟨⟨o, ho, r⟩, vs, n, hl, hr⟩ hk hg => ⟨⟨o, hk o ho, r⟩, vs, n, hg _ _ hl, hr.mono hg⟩
  item := fun i d A E s g Q hh hs ⟨hit, vs, n, hl, hr⟩ hx hQ => by
    obtain ⟨v, hv, hrv⟩ := hr.get hx
    exact wpAny_pyNext_tuple_item hit (items := vs.toArray) ⟨_, hs _ _ hl, rfl, n, rfl⟩ (by simpa using hv) fun h' hit' hsame => hQ v h' s.toks hrv ⟨hit', vs, n, hl, hr⟩ fun b o hb e => hsame.extBut b o hb e
  done := fun A E s g Q hh hs ⟨hit, vs, n, hl, hr⟩ hQ =>
    wpAny_pyNext_tuple_end hh hit (items := vs.toArray) ⟨_, hs _ _ hl, rfl, n, rfl⟩ (by simp [hr.length]) fun h' he => hQ h' s.toks fun b o hb e => he b o hb e
  self := fun i A E s g Q ⟨hit, _⟩ hQ => wpAny_pyIter_tupleiter hit hQ
noncomputable abbrev rngL (k : Nat) : List D := (List.range k).map fun (i : Nat) => D.int (i : Int)
theorem Iter.range (a : Addr) (k : Nat) : Iter prog w a (rngL k) (fun i h g => i ≤ k ∧ IsRangeIter h a (i : Int) ((k : Int) - i) 1) where
  obj := fun i h g ⟨_, ho⟩ => ⟨_, _, _, ho, rfl, rfl, by decide⟩
  mono := fun i h g h' g' ⟨hi, ho⟩ hk hg => ⟨hi, hk _ ho⟩
  item := fun i d A E s g Q hh hs ⟨hi, hit⟩ hx hQ => by
    rw [List.getElem?_map] at hx
    have hik : i < k := by
      rcases Nat.lt_or_ge i k with h | h
      · exact h
      · rw [List.getElem?_eq_none (by simpa using h)] at hx; cases hx
    rw [List.getElem?_range hik] at hx
    cases hx
    refine wpAny_pyNext_range_item hit (by omega) fun h' hit' hsame => hQ _ h' _ (.int _ _) ⟨hik, ?_⟩ fun b o hb e => hsame.extBut b o hb e
    rw [show ((i + 1 : Nat) : Int) = (i : Int) + 1 by omega, show (k : Int) - ((i : Int) + 1) = (k : Int) - i - 1 by omega]
    exact hit'
  done := fun A E s g Q hh hs ⟨hi, hit⟩ hQ => by
    rw [show (rngL k).length = k by simp] at hit
    exact wpAny_pyNext_range_end hh hit (by omega) fun h' he => hQ h' s.toks fun b o hb e => he b o hb e
  self := fun i A E s g Q ⟨_, hit⟩ hQ => by
    have hT : s.TypeIs (.ref a) "range_iterator" := ⟨_, hit, rfl⟩
    refine wpAny_pyIter_slot hT PySem.F.slot_range_iterator_iter (wpAny_call_entry PySem.F.slot_range_iterator_iter hT PySem.F.entry_range_iterator_iter ?_ (PySem.F.args_range_iterator_iter_1 _))
    show wpAny _ _ (ret (.ref a)) _ _ s
    exact wpAny_pure ⟨_, rfl, "range_iterator", _, hT, PySem.F.slot_range_iterator_next.lookup, hQ⟩

theorem IterE.list {ds : List D} : IterE prog w h₁ (.list ds) ds := fun A E s g v Q hh W r hQ => by
  cases r with | @list l vs k _ ha ra =>
  refine wpAny_pyIter_list (items := vs.toArray) ⟨_, W.sub _ _ ha, rfl, k, rfl⟩ ?_
  exact hQ s.heap.objs.size _ s.toks _ (Iter.list _ l (Nat.ne_of_lt (Heap.lt_size (W.sub _ _ ha))) ds) ⟨⟨_, Heap.get?_push_size _ rfl, rfl, rfl⟩, vs, k, ha, ra⟩ (get?_none_of_size (Nat.le_refl _)) fun b o e => Heap.get?_push_of_some _ e
theorem IterE.tuple {ds : List D} : IterE prog w h₁ (.tuple ds) ds := fun A E s g v Q hh W r hQ => by
  cases r with | @tuple l vs k _ ha ra =>
  refine wpAny_pyIter_tuple (items := vs.toArray) ⟨_, W.sub _ _ ha, rfl, k, rfl⟩ ?_
  exact hQ s.heap.objs.size _ s.toks _ (Iter.tuple _ l (Nat.ne_of_lt (Heap.lt_size (W.sub _ _ ha))) ds) ⟨⟨_, Heap.get?_push_size _ rfl, rfl, rfl⟩, vs, k, ha, ra⟩ (get?_none_of_size (Nat.le_refl _)) fun b o e => Heap.get?_push_of_some _ e
theorem IterE.rng {k : Nat} (hk : k ≤ 1000000) : IterE prog w h₁ (.rng k) (rngL k) := fun A E s g v Q hh W r hQ => by
  cases r with | @rng l _ t u v ha =>
  refine wpAny_pyIter_range (W.sub _ _ ha) (small_one (by omega) (by omega) (by omega) (by omega)) ?_
  rw [rangeSize_one]
  refine hQ s.heap.objs.size _ s.toks _ (Iter.range _ k) ⟨Nat.zero_le _, ?_⟩ (get?_none_of_size (Nat.le_refl _)) fun b o e => Heap.get?_push_of_some _ e
  have e : (if (0 : Int) < (k : Int) then (k : Int) - 0 else 0) = (k : Int) - ((0 : Nat) : Int) := by split <;> omega
  rw [e]
  exact Heap.get?_push_size _ rfl

theorem wpAny_letOwned {A : Around} {E : Value → Shared → Prop} {s : Shared} {target : Expr} {a : Addr} {v : Value} {Q : Unit → Shared → Prop} {o : Obj} {fs : Array Value} {c : String}
    (ho : s.heap.get? a = some o) (hd : o.data = .fields fs) (hc : o.cls = .type c) (hn : owners.contains c = false) (h : Q () s) : wpAny (model prog w) A (letOwnedTupleGo target (.ref a) v) Q E s := by
  unfold letOwnedTupleGo
  split
  · split
    · rename_i r b q
      cases q
      refine wpAny_bind (wpAny_load ho ?_)
      rw [hc, hd]
      dsimp only
      rw [if_neg (by rw [show (["enumerate", "zip", "dict_itemiterator", "dict_reverseitemiterator", "odict_iterator", "itertools.zip_longest", "itertools.pairwise"] : List String) = owners from rfl, hn]; simp)]
      exact wpAny_pure h
    · exact wpAny_pure h
  · split
    · rename_i r b q
      cases q
      refine wpAny_bind (wpAny_load ho ?_)
      rw [hc, hd]
      dsimp only
      rw [if_neg (by rw [show (["enumerate", "zip", "dict_itemiterator", "dict_reverseitemiterator", "odict_iterator", "itertools.zip_longest", "itertools.pairwise"] : List String) = owners from rfl, hn]; simp)]
      exact wpAny_pure h
    · exact wpAny_pure h
  · exact wpAny_pure h

/-- storing into a loop's target -/
noncomputable def AsgE (prog : Program) (w : World) (h₁ : Heap) (sc : Scope) (σ : List (Str × D)) (target : Expr) (d : D) (σ' : List (Str × D)) : Prop :=
  ∀ (A : Around) (E : Value → Shared → Prop) (env : Env) (F : Fx) (s : Shared) (g : Gh) (v : Value), A.handled = none → env.scope = sc → Inv h₁ env σ F s g → Rd g v d →
    wpAny (model prog w) A (assign target env v) (fun _ s' => Inv h₁ env σ' F s' g) E s
theorem AsgE.name {x : Str} {px : Pos} {d : D} (hset : Set1 x d σ σ') (hk : sc.names.lookup x = some .local) : AsgE prog w h₁ sc σ (.Name x px) d σ' := fun A E env F s g v hh hsc I r =>
  wpAny_assign_Name (I.store_rd hset r (.inl (by subst hsc; exact hk)))
theorem AsgE.pair {x y : Str} {px py tp : Pos} {k : Nat} {d₁ d₂ : D} (h1 : Set1 x d₁ σ σ') (h2 : Set1 y d₂ σ' σ'') (kx : sc.names.lookup x = some .local) (ky : sc.names.lookup y = some .local) :
    AsgE prog w h₁ sc σ (.Tuple [.Name x px, .Name y py] k tp) (.tuple [d₁, d₂]) σ'' := fun A E env F s g v hh hsc I r => by
  cases r with | @tuple a vs m _ ha ra =>
  cases ra with | @cons v₁ _ _ _ ra1 ra2 =>
  cases ra2 with | @cons v₂ _ _ _ ra2 ra3 =>
  cases ra3
  rw [arm_assign_Tuple]
  refine wpAny_bind (wpAny_standAt ?_)
  refine wpAny_unpack_tuple hh (items := #[v₁, v₂]) ⟨_, I.wf.sub _ _ ha, rfl, m, rfl⟩ rfl rfl fun h' he => ?_
  have I₂ := I.grow' (KeptBy.inv I he)
  show wpAny _ A (do holding [v₂] (assign (.Name x px) env v₁); assignInOrder [assign (.Name y py) env] [v₂]) _ E _
  refine wpAny_bind (wpAny_holding (wpAny_assign_Name (wpAny_mono (I₂.store_rd h1 ra1 (.inl (by subst hsc; exact kx))) (fun _ s₃ I₃ => ?_) fun _ _ x => x)))
  show wpAny _ A (do holding [] (assign (.Name y py) env v₂); pure ()) _ E _
  exact wpAny_bind (wpAny_holding (wpAny_assign_Name (wpAny_mono (I₃.store_rd h2 ra2 (.inl (by subst hsc; exact ky))) (fun _ s₄ I₄ => wpAny_pure I₄) fun _ _ x => x)))
theorem AsgE.four {x y z u : Str} {px py pz pu tp : Pos} {k : Nat} {d₁ d₂ d₃ d₄ : D} {σ₁ σ₂ σ₃ σ₄ : List (Str × D)} (h1 : Set1 x d₁ σ σ₁) (h2 : Set1 y d₂ σ₁ σ₂) (h3 : Set1 z d₃ σ₂ σ₃) (h4 : Set1 u d₄ σ₃ σ₄)
    (kx : sc.names.lookup x = some .local) (ky : sc.names.lookup y = some .local) (kz : sc.names.lookup z = some .local) (ku : sc.names.lookup u = some .local) :
    AsgE prog w h₁ sc σ (.Tuple [.Name x px, .Name y py, .Name z pz, .Name u pu] k tp) (.tuple [d₁, d₂, d₃, d₄]) σ₄ := fun A E env F s g v hh hsc I r => by
  cases r with | @tuple a vs m _ ha ra =>
  cases ra with | @cons v₁ _ _ _ ra1 ra2 =>
  cases ra2 with | @cons v₂ _ _ _ ra2 ra3 =>
  cases ra3 with | @cons v₃ _ _ _ ra3 ra4 =>
  cases ra4 with | @cons v₄ _ _ _ ra4 ra5 =>
  cases ra5
  rw [arm_assign_Tuple]
  refine wpAny_bind (wpAny_standAt ?_)
  refine wpAny_unpack_tuple hh (items := #[v₁, v₂, v₃, v₄]) ⟨_, I.wf.sub _ _ ha, rfl, m, rfl⟩ rfl rfl fun h' he => ?_
  have I₂ := I.grow' (KeptBy.inv I he)
  show wpAny _ A (do holding [v₂, v₃, v₄] (assign (.Name x px) env v₁); assignInOrder [assign (.Name y py) env, assign (.Name z pz) env, assign (.Name u pu) env] [v₂, v₃, v₄]) _ E _
  refine wpAny_bind (wpAny_holding (wpAny_assign_Name (wpAny_mono (I₂.store_rd h1 ra1 (.inl (by subst hsc; exact kx))) (fun _ s₃ I₃ => ?_) fun _ _ x => x)))
  show wpAny _ A (do holding [v₃, v₄] (assign (.Name y py) env v₂); assignInOrder [assign (.Name z pz) env, assign (.Name u pu) env] [v₃, v₄]) _ E _
  refine wpAny_bind (wpAny_holding (wpAny_assign_Name (wpAny_mono (I₃.store_rd h2 ra2 (.inl (by subst hsc; exact ky))) (fun _ s₄ I₄ => ?_) fun _ _ x => x)))
  show wpAny _ A (do holding [v₄] (assign (.Name z pz) env v₃); assignInOrder [assign (.Name u pu) env] [v₄]) _ E _
  refine wpAny_bind (wpAny_holding (wpAny_assign_Name (wpAny_mono (I₄.store_rd h3 ra3 (.inl (by subst hsc; exact kz))) (fun _ s₅ I₅ => ?_) fun _ _ x => x)))
  show wpAny _ A (do holding [] (assign (.Name u pu) env v₄); pure ()) _ E _
  exact wpAny_bind (wpAny_holding (wpAny_assign_Name (wpAny_mono (I₅.store_rd h4 ra4 (.inl (by subst hsc; exact ku))) (fun _ s₆ I₆ => wpAny_pure I₆) fun _ _ x => x)))

/-- the surroundings with the iterator object and the frozen view protected too -/
noncomputable def Fx.with (F : Fx) (a : Addr) (o : Obj) (g : Gh) : Fx := { F with K := F.K.add a o, Gp := g }
theorem Inv.protect {env : Env} {F : Fx} {s : Shared} {g : Gh} {a : Addr} {o : Obj} {fs : Array Value} (I : Inv h₁ env σ F s g) (ho : s.heap.get? a = some o) (hd : o.data = .fields fs) (hg : g a = none) : Inv h₁ env σ (F.with a o g) s g := by
  obtain ⟨m, ρ, hn, hv, hm⟩ := I.vals
  have hla : env.locals ≠ a := fun q => by
    obtain ⟨o', es, ep, ho', hd', _⟩ := hn
    rw [q, ho] at ho'; cases ho'; rw [hd] at hd'; cases hd'
  exact { I with
    prot := fun b o' e => by
      by_cases hb : b = a
      · subst hb; simp only [Fx.with, Gh.add_self] at e; cases e; exact ho
      · simp only [Fx.with, Gh.add_other hb] at e; exact I.prot b o' e
    protF := fun b o' e => e
    protN := fun b o' e => by
      by_cases hb : b = a
      · subst hb; exact hg
      · simp only [Fx.with, Gh.add_other hb] at e; exact I.protN b o' e
    loc0 := ⟨I.loc0.1, by simp only [Fx.with, Gh.add_other hla]; exact I.loc0.2⟩
    vals := ⟨m, ρ, hn, fun x d hx => ⟨(hv x d hx).1, by
      have hb := (hv x d hx).2
      cases d with
      | mlist xs =>
        obtain ⟨b, vs, k, e, h0, r⟩ := hb
        refine ⟨b, vs, k, e, ⟨h0.1, ?_⟩, r⟩
        have hba : b ≠ a := fun q => by
          have := r.2.1
          rw [q, ho] at this; cases this; cases hd
        simp only [Fx.with, Gh.add_other hba]; exact h0.2
      | _ => exact hb⟩, hm⟩ }
theorem Inv.unprotect {env : Env} {F : Fx} {s : Shared} {g g' : Gh} {a : Addr} {o : Obj} (I : Inv h₁ env σ (F.with a o g) s g') (hK : F.K a = none) (hG : ∀ b o, F.Gp b = some o → g b = some o) : Inv h₁ env σ F s g' := by
  obtain ⟨m, ρ, hn, hv, hm⟩ := I.vals
  have back : ∀ b o', F.K b = some o' → (F.with a o g).K b = some o' := fun b o' e => by
    have hb : b ≠ a := fun q => by rw [q, hK] at e; cases e
    simp only [Fx.with, Gh.add_other hb]; exact e
  have none_of : ∀ b, (F.with a o g).K b = none → F.K b = none := fun b e => by
    cases q : F.K b with
    | none => rfl
    | some o' => rw [back b o' q] at e; cases e
  exact { I with
    prot := fun b o' e => I.prot b o' (back b o' e)
    protF := fun b o' e => I.protF b o' (hG b o' e)
    protN := fun b o' e => I.protN b o' (back b o' e)
    loc0 := ⟨I.loc0.1, none_of _ I.loc0.2⟩
    vals := ⟨m, ρ, hn, fun x d hx => ⟨(hv x d hx).1, by
      have hb := (hv x d hx).2
      cases d with
      | mlist xs =>
        obtain ⟨b, vs, k, e, h0, r⟩ := hb
        exact ⟨b, vs, k, e, ⟨h0.1, none_of _ h0.2⟩, r⟩
      | _ => exact hb⟩, hm⟩ }
theorem Own.protect {env : Env} {F : Fx} {s : Shared} {g g' : Gh} {a : Addr} {o : Obj} {fs : Array Value} (ow : Own env F) (I : Inv h₁ env σ F s g) (ho : s.heap.get? a = some o) (hd : o.data = .fields fs) : Own env (F.with a o g') where
  new := fun x c e => ⟨(ow.new x c e).1, by
    obtain ⟨_, v, o', ho', hd'⟩ := I.cellG x c e
    have : c ≠ a := fun q => by rw [q, ho] at ho'; cases ho'; rw [hd] at hd'; cases hd'
    simp only [Fx.with, Gh.add_other this]; exact (ow.new x c e).2⟩
  has := ow.has
/-- the iterator object alone is changed -/
theorem Inv.tick {env : Env} {F : Fx} {s : Shared} {g : Gh} {a : Addr} {o : Obj} {fs : Array Value} {h' : Heap} {tk : Nat} (I : Inv h₁ env σ F s g) (ho : s.heap.get? a = some o) (hd : o.data = .fields fs)
    (hg : g a = none) (h0 : F.s₀.heap.get? a = none) (hK : F.K a = none) (hk : ∀ b o, b ≠ a → s.heap.get? b = some o → h'.get? b = some o) : Inv h₁ env σ F { s with heap := h', toks := tk } g := by
  obtain ⟨m, ρ, hn, hv, hm⟩ := I.vals
  have hla : env.locals ≠ a := fun q => by
    obtain ⟨o', es, ep, ho', hd', _⟩ := hn
    rw [q, ho] at ho'; cases ho'; rw [hd] at hd'; cases hd'
  have hcell : ∀ {c : Addr} {v : Option Value}, s.heap.IsCell c v → h'.IsCell c v := fun hc => let ⟨o', ho2, hd2⟩ := hc
    ⟨o', hk _ _ (fun q => by rw [q, ho] at ho2; cases ho2; rw [hd] at hd2; cases hd2) ho2, hd2⟩
  refine I.touch (a := a) (s' := { s with heap := h', toks := tk }) hk hg h0 hK rfl rfl (fun y c e => let ⟨_, v, hv⟩ := I.cellG y c e; ⟨v, hcell hv⟩) I.nodup
    ⟨m, ρ, (let ⟨o', es, ep, ho2, r⟩ := hn; ⟨o', es, ep, hk _ _ hla ho2, r⟩), fun y d hy => ⟨fun hu => ?_, ?_⟩, hm⟩
  · rcases (hv y d hy).1 hu with ⟨q1, q2⟩ | ⟨q1, c, q2, q3⟩
    · exact .inl ⟨q1, q2⟩
    · exact .inr ⟨q1, c, q2, hcell q3⟩
  · have hb := (hv y d hy).2
    cases d with
    | mlist ys =>
      obtain ⟨b, ws, j, e2, h02, hg2, ho2, hr2⟩ := hb
      exact ⟨b, ws, j, e2, h02, hg2, hk _ _ (fun q => by rw [q, ho] at ho2; cases ho2; cases hd) ho2, hr2⟩
    | _ => exact hb

theorem Post.unprotect {env : Env} {F : Fx} {g : Gh} {a : Addr} {o : Obj} {oc : Oc} {fl : Flow} {s' : Shared} (h : Post h₁ env (F.with a o g) oc fl s') (hK : F.K a = none) (hG : ∀ b o, F.Gp b = some o → g b = some o) : Post h₁ env F oc fl s' := by
  obtain ⟨g', h⟩ := h
  cases oc with
  | next σ' => exact ⟨g', h.1, h.2.unprotect hK hG⟩
  | ret d =>
    obtain ⟨v, e, G, r, k, kg⟩ := h
    refine ⟨g', v, e, G, r, fun b o' e => k b o' ?_, kg⟩
    have hb : b ≠ a := fun q => by rw [q, hK] at e; cases e
    simp only [Fx.with, Gh.add_other hb]; exact e

theorem ExS.for_ {target iter : Expr} {body : List Stmt} {pos : Pos} {d : D} {ds : List D} (hi : EvE prog w h₁ n sc σ iter d) (hit : IterE prog w h₁ d ds) (σs : Nat → List (Str × D)) (hσ : σs 0 = σ) (k : Nat) (hk : k ≤ ds.length)
    (step : ∀ i d', i < k → ds[i]? = some d' → ∃ σm, AsgE prog w h₁ sc (σs i) target d' σm ∧ ExL prog w h₁ n sc σm body (.next (σs (i + 1))))
    {o : Oc} (fin : (k = ds.length ∧ o = .next (σs k)) ∨ (∃ d' σm dr, ds[k]? = some d' ∧ AsgE prog w h₁ sc (σs k) target d' σm ∧ ExL prog w h₁ n sc σm body (.ret dr) ∧ o = .ret dr))
    (hs : ∀ env x, foldedSetIterable iter env x = pure x := by intro _ _; rfl) :
    ExS prog w h₁ n sc σ (.For target iter body [] pos) o := fun A E env F s g rm hsc ow I => by
  refine wpAny_For (wpAny_mono (hi A E env F s g rm hsc I) (fun v s₁ ⟨g₁, G₁, r₁⟩ => ?_) fun _ _ x => x) (hs env)
  have I₁ := I.grow' G₁
  refine hit A E s₁ g₁ v _ rm.handled I₁.wf r₁ fun a h' tk St It hst hnew hkeep => ?_
  have G₂ : Grow s₁ g₁ { s₁ with heap := h', toks := tk } g₁ := Grow.kept I₁.wf.sub hkeep rfl rfl
  have I₂ := I₁.grow' G₂
  have hga : g₁ a = none := by
    cases q : g₁ a with
    | none => rfl
    | some o' => have := I₁.wf.sub a o' q; rw [hnew] at this; cases this
  have h0a : F.s₀.heap.get? a = none := by
    cases q : F.s₀.heap.get? a with
    | none => rfl
    | some o' => have := I₁.grow.keep a o' q; rw [hnew] at this; cases this
  have hKa : F.K a = none := by
    cases q : F.K a with
    | none => rfl
    | some o' => have := I₁.prot a o' q; rw [hnew] at this; cases this
  have main : ∀ (j i : Nat) (s : Shared) (g : Gh), k - i = j → i ≤ k → Inv h₁ env (σs i) F s g → St i s.heap g → g a = none →
      codeAny (model prog w) A (.forLoop target (.ref a) body [] env) (fun r s' => match r with | .ok f => Post h₁ env F o f s' | .error e => cameBackBy (model prog w) A env E e s') s := by
    intro j
    induction j with
    | zero =>
      intro i s g hj hik I hst hga
      have hik : i = k := by omega
      subst hik
      refine codeAny_of_tree ?_
      show wpAny _ A ((forTurn target (.ref a) body [] env).onRaise (fun x => do noteFrame x env; theTreesLotGoes x)) _ _ s
      refine wpAny_noted ?_
      simp only [forTurn]
      rcases fin with ⟨hlen, rfl⟩ | ⟨d', σm, dr, hd', hasg, hbody, rfl⟩
      · refine wpAny_bind (wpAny_standAt (wpAny_bind (wpAny_onRaise ?_)))
        refine It.done A _ s g _ rm.handled I.wf.sub (hlen ▸ hst) fun h' tk hk' => ?_
        obtain ⟨o', fs, c, ho', hd', hc', hn'⟩ := It.obj i s.heap g hst
        have I' := I.tick (tk := tk) ho' hd' hga h0a hKa hk'
        exact wpAny_pure ⟨rfl, codeAny_block (wpAny_execs_nil ⟨g, rfl, I'⟩)⟩
      · refine wpAny_bind (wpAny_standAt (wpAny_bind (wpAny_onRaise ?_)))
        refine It.item i d' A _ s g _ rm.handled I.wf.sub hst hd' fun v h' tk hr hst' hk' => ?_
        obtain ⟨o', fs, c, ho', hd'', hc', hn'⟩ := It.obj i s.heap g hst
        have I' := I.tick (tk := tk) ho' hd'' hga h0a hKa hk'
        obtain ⟨o2, fs2, c2, ho2, hd2, hc2, hn2⟩ := It.obj (i + 1) h' g hst'
        refine wpAny_bind (wpAny_letOwned (s := { s with heap := h', toks := tk }) ho2 hd2 hc2 hn2 ?_)
        have Ip := I'.protect (s := { s with heap := h', toks := tk }) ho2 hd2 hga
        refine wpAny_bind (wpAny_mono (hasg A _ env (F.with a o2 g) _ g v rm.handled hsc Ip hr) (fun _ s₃ I₃ => ?_) fun _ _ x => x)
        refine wpAny_bind (wpAny_mono (hbody A _ env (F.with a o2 g) s₃ g rm hsc (ow.protect I' ho2 hd2) I₃) (fun f s₄ hp => ?_) fun _ _ x => x)
        obtain ⟨g4, v4, rfl, rest⟩ := hp.unprotect hKa I'.protF
        exact wpAny_pure ⟨g4, v4, rfl, rest⟩
    | succ j ih =>
      intro i s g hj hik I hst hga
      have hlt : i < k := by omega
      refine codeAny_of_tree ?_
      show wpAny _ A ((forTurn target (.ref a) body [] env).onRaise (fun x => do noteFrame x env; theTreesLotGoes x)) _ _ s
      refine wpAny_noted ?_
      simp only [forTurn]
      have hx : ds[i]? = some ds[i] := List.getElem?_eq_getElem (by omega)
      obtain ⟨σm, hasg, hbody⟩ := step i _ hlt hx
      refine wpAny_bind (wpAny_standAt (wpAny_bind (wpAny_onRaise ?_)))
      refine It.item i _ A _ s g _ rm.handled I.wf.sub hst hx fun v h' tk hr hst' hk' => ?_
      obtain ⟨o', fs, c, ho', hd'', hc', hn'⟩ := It.obj i s.heap g hst
      have I' := I.tick (tk := tk) ho' hd'' hga h0a hKa hk'
      obtain ⟨o2, fs2, c2, ho2, hd2, hc2, hn2⟩ := It.obj (i + 1) h' g hst'
      refine wpAny_bind (wpAny_letOwned (s := { s with heap := h', toks := tk }) ho2 hd2 hc2 hn2 ?_)
      have Ip := I'.protect (s := { s with heap := h', toks := tk }) ho2 hd2 hga
      refine wpAny_bind (wpAny_mono (hasg A _ env (F.with a o2 g) _ g v rm.handled hsc Ip hr) (fun _ s₃ I₃ => ?_) fun _ _ x => x)
      refine wpAny_bind (wpAny_mono (hbody A _ env (F.with a o2 g) s₃ g rm hsc (ow.protect I' ho2 hd2) I₃) (fun f s₄ hp => ?_) fun _ _ x => x)
      obtain ⟨g4, rfl, I₄⟩ := hp
      have ha4 : s₄.heap.get? a = some o2 := I₄.prot a o2 (Gh.add_self _ _ _)
      refine wpAny_pure ⟨rfl, ih (i + 1) s₄ g4 (by omega) hlt (I₄.unprotect hKa I'.protF) (It.mono _ _ _ _ _ hst' (fun o3 e => by rw [ho2] at e; cases e; exact ha4) fun b o3 e => I₄.protF b o3 e) ?_⟩
      exact I₄.protN a o2 (Gh.add_self _ _ _)
  exact main k 0 _ g₁ rfl (Nat.zero_le _) (hσ ▸ I₂) hst hga
end
end Mine
end

-- part MComp
section

open PySem PySem.W PyProof.Rows
set_option linter.unusedVariables false
set_option maxRecDepth 100000
namespace Mine

noncomputable def NoM (σ : List (Str × D)) : Prop := ∀ x xs, (x, D.mlist xs) ∉ σ

section
variable {prog : Program} {w : World} {h₁ : Heap} {n : Nat} {sc : Scope} {σ σ' σ'' : List (Str × D)}

/-- in a frame without growing lists any object but the locals may be protected -/
theorem Inv.protectN {env : Env} {F : Fx} {s : Shared} {g : Gh} {a : Addr} {o : Obj} (I : Inv h₁ env σ F s g) (hno : NoM σ) (ho : s.heap.get? a = some o) (hla : a ≠ env.locals) (hg : g a = none) : Inv h₁ env σ (F.with a o g) s g := by
  obtain ⟨m, ρ, hn, hv, hm⟩ := I.vals
  exact { I with
    prot := fun b o' e => by
      by_cases hb : b = a
      · subst hb; simp only [Fx.with, Gh.add_self] at e; cases e; exact ho
      · simp only [Fx.with, Gh.add_other hb] at e; exact I.prot b o' e
    protF := fun b o' e => e
    protN := fun b o' e => by
      by_cases hb : b = a
      · subst hb; exact hg
      · simp only [Fx.with, Gh.add_other hb] at e; exact I.protN b o' e
    loc0 := ⟨I.loc0.1, by simp only [Fx.with, Gh.add_other (Ne.symm hla)]; exact I.loc0.2⟩
    vals := ⟨m, ρ, hn, fun x d hx => ⟨(hv x d hx).1, by
      have hb := (hv x d hx).2
      cases d with
      | mlist xs => exact absurd hx (hno x xs)
      | _ => exact hb⟩, hm⟩ }
/-- one object is changed that is neither the locals nor a cell -/
theorem Inv.tickN {env : Env} {F : Fx} {s : Shared} {g : Gh} {a : Addr} {h' : Heap} {tk : Nat} (I : Inv h₁ env σ F s g) (hno : NoM σ) (hla : a ≠ env.locals) (hc : ∀ c v, s.heap.IsCell c v → c ≠ a)
    (hg : g a = none) (h0 : F.s₀.heap.get? a = none) (hK : F.K a = none) (hk : ∀ b o, b ≠ a → s.heap.get? b = some o → h'.get? b = some o) : Inv h₁ env σ F { s with heap := h', toks := tk } g := by
  obtain ⟨m, ρ, hn, hv, hm⟩ := I.vals
  have hcell : ∀ {c : Addr} {v : Option Value}, s.heap.IsCell c v → h'.IsCell c v := fun hcv => let ⟨o', ho2, hd2⟩ := hcv; ⟨o', hk _ _ (hc _ _ hcv) ho2, hd2⟩
  refine I.touch (a := a) (s' := { s with heap := h', toks := tk }) hk hg h0 hK rfl rfl (fun y c e => let ⟨_, v, hv⟩ := I.cellG y c e; ⟨v, hcell hv⟩) I.nodup
    ⟨m, ρ, (let ⟨o', es, ep, ho2, r⟩ := hn; ⟨o', es, ep, hk _ _ (Ne.symm hla) ho2, r⟩), fun y d hy => ⟨fun hu => ?_, ?_⟩, hm⟩
  · rcases (hv y d hy).1 hu with ⟨q1, q2⟩ | ⟨q1, c, q2, q3⟩
    · exact .inl ⟨q1, q2⟩
    · exact .inr ⟨q1, c, q2, hcell q3⟩
  · have hb := (hv y d hy).2
    cases d with
    | mlist ys => exact absurd hy (hno y ys)
    | _ => exact hb

/-- what a comprehension's inner part adds to its list -/
noncomputable def AccE (prog : Program) (w : World) (h₁ : Heap) (n : Nat) (sc : Scope) (σ : List (Str × D)) (T : Env → Value → Sem Unit) (zs : List D) : Prop :=
  ∀ (A : Around) (E : Value → Shared → Prop) (env : Env) (F : Fx) (s : Shared) (g : Gh) (C : Addr) (ys : List Value) (k : Nat) (out : List D), Room n A → env.scope = sc → Inv h₁ env σ F s g →
    s.heap.get? C = some (listO ys k) → g C = none → F.s₀.heap.get? C = none → F.K C = none → RdL g ys out → out.length + zs.length ≤ 1000 →
    wpAny (model prog w) A (T env (.ref C)) (fun _ s' => ∃ g' ys' k', Inv h₁ env σ F s' g' ∧ s'.heap.get? C = some (listO ys' k') ∧ g' C = none ∧ RdL g' ys' (out ++ zs)) E s

theorem cell_ne {s : Shared} {C : Addr} {ys : List Value} {k : Nat} (hC : s.heap.get? C = some (listO ys k)) : ∀ c v, s.heap.IsCell c v → c ≠ C := fun c v ⟨o, ho, hd⟩ q => by
  rw [q, hC] at ho; cases ho; cases hd
theorem locals_ne {env : Env} {F : Fx} {s : Shared} {g : Gh} {C : Addr} {ys : List Value} {k : Nat} (I : Inv h₁ env σ F s g) (hC : s.heap.get? C = some (listO ys k)) : C ≠ env.locals := fun q => by
  obtain ⟨m, ρ, ⟨o, es, ep, ho, hd, _⟩, _⟩ := I.vals
  rw [← q, hC] at ho; cases ho; cases hd

theorem AccE.emit {elt : Expr} {r : D} (hno : NoM σ) (h : EvE prog w h₁ n sc σ elt r) : AccE prog w h₁ n sc σ (fun env acc => do let _ ← call (.builtin "list.append") [acc, ← eval elt env]) [r] := fun A E env F s g C ys k out rm hsc I hC hgC h0 hK hr hz => by
  refine wpAny_bind (wpAny_mono (h A E env F s g rm hsc I) (fun v s₁ ⟨g₁, G₁, r₁⟩ => ?_) fun _ _ x => x)
  have I₁ := I.grow' G₁
  have hC₁ := G₁.keep _ _ hC
  have hr₁ := hr.mono (G₁.le I.wf.sub)
  have hl := hr₁.length
  refine wpAny_bind (wpAny_list_append_plain (items := ys.toArray) ⟨k, hC₁⟩ (fun h' hp' hsame => wpAny_pure ?_) (by simp only [List.size_toArray]; simp only [List.length_singleton] at hz; have : sizeLine = 16777216 := rfl; omega))
  obtain ⟨k', ho'⟩ := hp'
  rw [show ys.toArray.push v = (ys ++ [v]).toArray from by simp] at ho'
  have hgC₁ : g₁ C = none := (G₁.old _ _ hC).trans hgC
  exact ⟨g₁, ys ++ [v], k', I₁.tickN (tk := s₁.toks) hno (locals_ne I₁ hC₁) (cell_ne hC₁) hgC₁ h0 hK (fun b o hb e => hsame.extBut b o hb e), ho', hgC₁, hr₁.append (.cons r₁ .nil)⟩

noncomputable def TestsE (prog : Program) (w : World) (h₁ : Heap) (n : Nat) (sc : Scope) (σ : List (Str × D)) : List Expr → Bool → Prop
  | [], b => b = true
  | [c], b => EvB prog w h₁ n sc σ c b
  | _, _ => False

/-- a loop of a comprehension, from item i on -/
theorem comp_loop {e target iter : Expr} {ifs : List Expr} {depth : Nat} {T : Env → Value → Sem Unit} {p : Pos} {σc : List (Str × D)} {f : D → List D} {ds : List D}
    (hturn : ∀ (it acc : Value) (env : Env), compTurn e depth it acc env = (do
      standAt p
      match ← pyNext it with
      | none => pure (.done .next)
      | some v =>
        letOwnedTupleGo target it v
        assign target env v
        let ok ← forIn ifs true fun c r => if r = true then do let ok ← isTrue c env (eval c env); pure (ForInStep.yield ok) else pure (ForInStep.yield r)
        if ok = true then do
          T env acc
          again (.compLoop e depth it acc env)
        else again (.compLoop e depth it acc env)))
    (hcode : ∀ it acc env, (Code.compLoop e depth it acc env).isFrame = false) (hquiet : ∀ it acc env, (Code.compLoop e depth it acc env).quiet = true) (hweight : ∀ it acc env, (Code.compLoop e depth it acc env).weight = 0)
    (hunits : ∀ it acc env, (Code.compLoop e depth it acc env).cUnits = 0)
    (hno : NoM σc)
    (hitem : ∀ d ∈ ds, ∃ σm b, AsgE prog w h₁ sc σc target d σm ∧ Weak σm σc ∧ NoM σm ∧ TestsE prog w h₁ n sc σm ifs b ∧ (b = true → AccE prog w h₁ n sc σm T (f d)) ∧ (b = false → f d = []))
    (A : Around) (env : Env) (F : Fx) (a C : Addr) (St : Nat → Heap → Gh → Prop) (It : Iter prog w a ds St) (rm : Room n A) (hsc : env.scope = sc) (h0a : F.s₀.heap.get? a = none) (hKa : F.K a = none)
    (h0C : F.s₀.heap.get? C = none) (hKC : F.K C = none) (R : Result → Shared → Prop) :
    ∀ (j i : Nat) (s : Shared) (g : Gh) (ys : List Value) (k : Nat) (out : List D), ds.length - i = j → i ≤ ds.length → Inv h₁ env σc F s g → St i s.heap g → g a = none → s.heap.get? C = some (listO ys k) → g C = none → RdL g ys out →
      out.length + ((ds.drop i).flatMap f).length ≤ 1000 →
      (∀ s' g' ys' k', Inv h₁ env σc F s' g' → s'.heap.get? C = some (listO ys' k') → g' C = none → RdL g' ys' (out ++ (ds.drop i).flatMap f) → R (.ok .next) s') →
      codeAny (model prog w) A (.compLoop e depth (.ref a) (.ref C) env) R s := by
  intro j
  induction j with
  | zero =>
    intro i s g ys k out hj hi I hst hga hC hgC hr hz hR
    have hi : i = ds.length := by omega
    subst hi
    rw [List.drop_of_length_le (Nat.le_refl _)] at hR
    refine codeAny_of_tree ?_
    rw [Around.under_of_weight (hweight _ _ _) (hunits _ _ _)]
    show wpAny _ A (if (Code.compLoop e depth (.ref a) (.ref C) env).isFrame then _ else (compTurn e depth (.ref a) (.ref C) env).onRaise (fun x => do noteFrame x env; theTreesLotGoes x)) _ _ s
    rw [hcode, if_neg (by decide), hturn]
    refine wpAny_noted ?_
    refine wpAny_bind (wpAny_standAt (wpAny_bind ?_))
    refine It.done A _ s g _ rm.handled I.wf.sub hst fun h' tk hk' => ?_
    obtain ⟨o', fs, c, ho', hd', hc', hn'⟩ := It.obj _ s.heap g hst
    have hCa : C ≠ a := fun q => by rw [q, ho'] at hC; cases hC; cases hd'
    exact wpAny_pure (hR _ g ys k (I.tick (tk := tk) ho' hd' hga h0a hKa hk') (hk' _ _ hCa hC) hgC (by simpa using hr))
  | succ j ih =>
    intro i s g ys k out hj hi I hst hga hC hgC hr hz hR
    have hlt : i < ds.length := by omega
    have hx : ds[i]? = some ds[i] := List.getElem?_eq_getElem hlt
    have hdrop : ds.drop i = ds[i] :: ds.drop (i + 1) := List.drop_eq_getElem_cons hlt
    obtain ⟨σm, b, hasg, hweak, hnom, htest, hacc, hnil⟩ := hitem ds[i] (List.getElem_mem _)
    refine codeAny_of_tree ?_
    rw [Around.under_of_weight (hweight _ _ _) (hunits _ _ _)]
    show wpAny _ A (if (Code.compLoop e depth (.ref a) (.ref C) env).isFrame then _ else (compTurn e depth (.ref a) (.ref C) env).onRaise (fun x => do noteFrame x env; theTreesLotGoes x)) _ _ s
    rw [hcode, if_neg (by decide), hturn]
    refine wpAny_noted ?_
    refine wpAny_bind (wpAny_standAt (wpAny_bind ?_))
    refine It.item i _ A _ s g _ rm.handled I.wf.sub hst hx fun v h' tk hrv hst' hk' => ?_
    obtain ⟨o', fs, c, ho', hd', hc', hn'⟩ := It.obj i s.heap g hst
    have hCa : C ≠ a := fun q => by rw [q, ho'] at hC; cases hC; cases hd'
    have I' := I.tick (tk := tk) ho' hd' hga h0a hKa hk'
    have hC' : h'.get? C = some (listO ys k) := hk' _ _ hCa hC
    obtain ⟨o2, fs2, c2, ho2, hd2, hc2, hn2⟩ := It.obj (i + 1) h' g hst'
    refine wpAny_bind (wpAny_letOwned (s := { s with heap := h', toks := tk }) ho2 hd2 hc2 hn2 ?_)
    -- the iterator and the list protected while the target is stored
    have Ip := I'.protect (s := { s with heap := h', toks := tk }) ho2 hd2 hga
    have Iq := Ip.protectN (s := { s with heap := h', toks := tk }) hno hC' (locals_ne I' hC') hgC
    refine wpAny_bind (wpAny_mono (hasg A _ env _ _ g v rm.handled hsc Iq hrv) (fun _ s₃ I₃ => ?_) fun _ _ x => x)
    have hC₃ : s₃.heap.get? C = some (listO ys k) := I₃.prot C _ (Gh.add_self _ _ _)
    have hKC' : (F.with a o2 g).K C = none := by simp only [Fx.with, Gh.add_other hCa]; exact hKC
    have I₄ := I₃.unprotect hKC' Ip.protF
    -- the tests
    have htests : wpAny (model prog w) A (forIn ifs true fun c r => if r = true then do let ok ← isTrue c env (eval c env); pure (ForInStep.yield ok) else pure (ForInStep.yield r)) (OutB s₃ g b) (notedBy (model prog w) A env fun e s' => R (.error e) s') s₃ := by
      match ifs, htest with
      | [], htest => cases htest; exact wpAny_tests_nil ⟨rfl, g, Grow.refl I₄.wf.sub⟩
      | [c], htest => exact wpAny_tests_one (htest A _ env _ s₃ g rm hsc I₄)
    refine wpAny_bind (wpAny_mono htests (fun ok s₅ ⟨eok, g₅, G₅⟩ => ?_) fun _ _ x => x)
    subst eok
    have I₅ := I₄.grow' G₅
    have hC₅ := G₅.keep _ _ hC₃
    have hgC₅ : g₅ C = none := (G₅.old _ _ hC₃).trans hgC
    have hr₅ : RdL g₅ ys out := hr.mono (G₅.le I₄.wf.sub)
    have hzl : out.length + (f ds[i]).length + ((ds.drop (i + 1)).flatMap f).length ≤ 1000 := by
      rw [hdrop, List.flatMap_cons, List.length_append] at hz; omega
    have hfin : ∀ (s₆ : Shared) (g₆ : Gh) (ys₆ : List Value) (k₆ : Nat), Inv h₁ env σm (F.with a o2 g) s₆ g₆ → s₆.heap.get? C = some (listO ys₆ k₆) → g₆ C = none → RdL g₆ ys₆ (out ++ f ds[i]) →
        (Code.compLoop e depth (.ref a) (.ref C) env).quiet = true ∧ codeAny (model prog w) A (.compLoop e depth (.ref a) (.ref C) env) R s₆ := by
      intro s₆ g₆ ys₆ k₆ I₆ hC₆ hgC₆ hr₆
      refine ⟨hquiet _ _ _, ih (i + 1) s₆ g₆ ys₆ k₆ (out ++ f ds[i]) (by omega) hlt ((I₆.weak hweak).unprotect hKa I'.protF) (It.mono _ _ _ _ _ hst' (fun o3 e => by rw [ho2] at e; cases e; exact I₆.prot a o2 (Gh.add_self _ _ _)) fun b o3 e => I₆.protF b o3 e)
        (I₆.protN a o2 (Gh.add_self _ _ _)) hC₆ hgC₆ hr₆ (by rw [List.length_append]; omega) fun s' g' ys' k' I' hC' hgC' hr' => hR s' g' ys' k' I' hC' hgC' ?_⟩
      rw [hdrop, List.flatMap_cons, ← List.append_assoc]; exact hr'
    cases ok with
    | false =>
      rw [if_neg (by decide)]
      refine wpAny_pure (hfin s₅ g₅ ys k I₅ hC₅ hgC₅ ?_)
      rw [hnil rfl, List.append_nil]; exact hr₅
    | true =>
      rw [if_pos rfl]
      refine wpAny_bind (wpAny_mono (hacc rfl A _ env _ s₅ g₅ C ys k out rm hsc I₅ hC₅ hgC₅ h0C hKC' hr₅ (by omega)) (fun _ s₆ ⟨g₆, ys₆, k₆, I₆, hC₆, hgC₆, hr₆⟩ => ?_) fun _ _ x => x)
      exact wpAny_pure (hfin s₆ g₆ ys₆ k₆ I₆ hC₆ hgC₆ hr₆)
end
end Mine
end

-- part MComp2
section

open PySem PySem.W PyProof.Rows
set_option linter.unusedVariables false
set_option maxRecDepth 100000
namespace Mine

noncomputable def relabelS (scope sc : Scope) : Scope :=
  { scope with names := scope.names.map fun (n, k) => if (k == .free && sc.kind == .function && sc.names.lookup n == some .cell) then (n, .cell) else (n, k) }
theorem relabel_eq {scope sc : Scope} {env : Env} (h : env.scope = sc) : relabel scope env = relabelS scope sc := by subst h; rfl

noncomputable def freeOf (scope : Scope) : List Str := (scope.names.filter (·.2 == .free)).map (·.1)

theorem closure_loop (env : Env) (f : Str → Addr) : ∀ (names : List (Str × NameKind)) (acc : List (Str × Addr)), (∀ p ∈ names, p.2 = .free → env.cells.lookup p.1 = some (f p.1)) →
    (forIn names acc fun (p : Str × NameKind) (cs : List (Str × Addr)) => if (p.2 == NameKind.free) = true then (do let a ← cellOf env p.1; pure (ForInStep.yield ((p.1, a) :: cs))) else pure (ForInStep.yield cs)) =
      (pure ((((names.filter (·.2 == .free)).map (·.1)).map fun y => (y, f y)).reverse ++ acc) : Sem _)
  | [], acc, _ => by simp
  | p :: r, acc, h => by
    have ih := fun acc => closure_loop env f r acc fun q hq => h q (List.mem_cons_of_mem _ hq)
    rw [List.forIn_cons]
    by_cases hp : (p.2 == NameKind.free) = true
    · have e : cellOf env p.1 = pure (f p.1) := by unfold cellOf; rw [h p (List.mem_cons_self ..) (beq_iff_eq.mp hp)]
      rw [if_pos hp, e]
      simp only [pure_bind]
      rw [ih, List.filter_cons, if_pos hp]
      simp
    · rw [if_neg hp]
      simp only [pure_bind]
      rw [ih, List.filter_cons, if_neg hp]
theorem closureFor_eq {scope : Scope} {env : Env} (f : Str → Addr) (h : ∀ p ∈ scope.names, p.2 = .free → env.cells.lookup p.1 = some (f p.1)) :
    closureFor scope env = pure ((freeOf scope).map fun y => (y, f y)).reverse := by
  unfold closureFor
  have := closure_loop env f scope.names [] h
  rw [List.append_nil] at this
  simp only [freeOf]
  rw [← bind_pure (pure _), ← this]
theorem lookup_pairs (f : Str → Addr) : ∀ (l : List Str) (x : Str), x ∈ l → (l.map fun y => (y, f y)).lookup x = some (f x)
  | [], x, h => by cases h
  | y :: r, x, h => by
    rw [List.map_cons, List.lookup_cons]
    by_cases hx : x = y
    · subst hx; simp
    · rw [show (x == y) = false by simpa using hx]
      exact lookup_pairs f r x ((List.mem_cons.mp h).resolve_left hx)
theorem lookup_pairs_inv (f : Str → Addr) : ∀ (l : List Str) (x : Str) (c : Addr), (l.map fun y => (y, f y)).lookup x = some c → x ∈ l ∧ c = f x
  | [], x, c, h => by cases h
  | y :: r, x, c, h => by
    rw [List.map_cons, List.lookup_cons] at h
    by_cases hx : x = y
    · subst hx; simp at h; exact ⟨List.mem_cons_self .., h.symm⟩
    · rw [show (x == y) = false by simpa using hx] at h
      obtain ⟨a, b⟩ := lookup_pairs_inv f r x c h
      exact ⟨List.mem_cons_of_mem _ a, b⟩

section
variable {prog : Program} {w : World} {h₁ : Heap} {n : Nat} {sc : Scope} {σ σ' σ'' : List (Str × D)}

/-- the names that the comprehension reads, in its frame -/
structure Caps (scope sc : Scope) (σ σc : List (Str × D)) : Prop where
  free : ∀ y ∈ freeOf scope, sc.names.lookup y = some .cell ∧ ∃ d, (y, d) ∈ σ ∧ d ≠ .unset
  caps : ∀ p ∈ σc, p.2 = .unset ∨ (p ∈ σ ∧ p.1 ∈ freeOf scope ∧ ((relabelS scope sc).names.lookup p.1 = some .cell))
  nodup : (σc.map (·.1)).Nodup
  nocell : ∀ x ∈ scope.names, x.2 ≠ .cell
  kind : scope.kind = .function
  names : ∀ x ∈ scope.names, x.2 = .local → scope.names.lookup x.1 = some .local
  noM : NoM σc

noncomputable abbrev Fx.start (s : Shared) (g : Gh) : Fx := ⟨s, g, fun _ => none, fun _ => none, fun _ => none⟩

/-- the comprehension's own frame -/
theorem comp_frame {scope : Scope} {σc : List (Str × D)} {env : Env} {F : Fx} {s₁ s₃ : Shared} {g : Gh} (cp : Caps scope sc σ σc) (hsc : env.scope = sc) (I : Inv h₁ env σ F s₁ g)
    (hk : ∀ b o, s₁.heap.get? b = some o → s₃.heap.get? b = some o) (hos : s₃.os = s₁.os) (hgens : s₃.gens = s₁.gens) (A : Around) (E : Value → Shared → Prop) :
    ∃ cl, closureFor scope env = pure cl ∧ ∀ (Q : Env → Shared → Prop),
      (∀ cenv h' tk, cenv.locals = s₃.heap.objs.size → (∀ b o, s₃.heap.get? b = some o → h'.get? b = some o) →
        ({ cenv with scope := relabel scope env } : Env).scope = relabelS scope sc → Inv h₁ { cenv with scope := relabel scope env } σc (Fx.start s₁ g) { s₃ with heap := h', toks := tk } g → Q cenv { s₃ with heap := h', toks := tk }) →
      wpAny (model prog w) A (newFunctionEnv scope env.globals cl [] env.qual none .none (some env)) Q E s₃ := by
  obtain ⟨m, ρ, hn, hv, hm⟩ := I.vals
  have hcell : ∀ y ∈ freeOf scope, ∃ c, env.cells.lookup y = some c := fun y hy => by
    obtain ⟨h1, d, hd, hu⟩ := cp.free y hy
    rcases (hv y d hd).1 hu with ⟨q, _⟩ | ⟨_, c, hc, _⟩
    · have q' : env.scope.names.lookup y = some .local := q
      rw [hsc, h1] at q'; cases q'
    · exact ⟨c, hc⟩
  let f : Str → Addr := fun y => (env.cells.lookup y).getD 0
  have hf : ∀ y ∈ freeOf scope, env.cells.lookup y = some (f y) := fun y hy => by
    obtain ⟨c, hc⟩ := hcell y hy
    show env.cells.lookup y = some ((env.cells.lookup y).getD 0)
    rw [hc]; rfl
  have hmemf : ∀ p ∈ scope.names, p.2 = .free → p.1 ∈ freeOf scope := fun p hp hpk => by
    have hm : p ∈ scope.names.filter (·.2 == .free) := List.mem_filter.mpr ⟨hp, by rw [hpk]; rfl⟩
    exact List.mem_map_of_mem (f := (·.1)) hm
  refine ⟨_, closureFor_eq f fun p hp hpk => hf p.1 (hmemf p hp hpk), fun Q hQ => ?_⟩
  refine wpAny_newFunctionEnv cp.nocell (fun x hx => by cases hx) (fun h' hns hsame => ?_) cp.kind
  have hlook : ∀ x c, (((freeOf scope).map fun y => (y, f y)).reverse).lookup x = some c → env.cells.lookup x = some c := fun x c e => by
    rw [← List.map_reverse] at e
    obtain ⟨a, b⟩ := lookup_pairs_inv f _ x c e
    rw [b]; exact hf x (List.mem_reverse.mp a)
  have hkeep : ∀ b o, s₃.heap.get? b = some o → h'.get? b = some o := fun b o e => hsame.extBut b o (Nat.ne_of_lt (Heap.lt_size e)) (Heap.get?_push_of_some _ e)
  refine hQ (newEnv scope s₃.heap.objs.size env.globals _ env.qual none .none (some env) builtinsNs) h' _ rfl hkeep (relabel_eq hsc) ?_
  have hGr : Grow s₁ g { s₃ with heap := h', toks := s₃.toks + 0 } g := Grow.kept I.wf.sub (fun b o e => hkeep b o (hk b o e)) hos hgens
  have hnone : s₁.heap.get? s₃.heap.objs.size = none := by
    cases q : s₁.heap.get? s₃.heap.objs.size with
    | none => rfl
    | some o => exact absurd (Heap.lt_size (hk _ _ q)) (Nat.lt_irrefl _)
  exact {
    wf := I.wf.grow hGr
    grow := hGr
    prot := fun a o e => by cases e
    protG := fun i st e => by cases e
    protF := fun a o e => by cases e
    protN := fun a o e => by cases e
    fn := cp.kind
    gl := I.gl
    bl := I.bl
    loc0 := ⟨hnone, rfl⟩
    locG := by
      cases q : g s₃.heap.objs.size with
      | none => exact q
      | some o => have := I.wf.sub _ _ q; rw [hnone] at this; cases this
    cellG := fun x c e => let ⟨h1, v, h2⟩ := I.cellG x c (hlook x c e); ⟨h1, v, h2.keeps hGr.keep⟩
    cellInj := fun x y c ex ey => I.cellInj x y c (hlook x c ex) (hlook y c ey)
    nodup := cp.nodup
    vals := ⟨_, ρ, hns, fun x d hx => by
        rcases cp.caps (x, d) hx with hu | ⟨hmem, hfr, hkind⟩
        · dsimp only at hu; subst hu; exact ⟨fun q => absurd rfl q, trivial⟩
        · obtain ⟨h1, h2⟩ := hv x d hmem
          have hnm : ∀ xs, d ≠ .mlist xs := fun xs q => cp.noM x xs (q ▸ hx)
          by_cases hu : d = .unset
          · subst hu; exact ⟨fun q => absurd rfl q, trivial⟩
          · refine ⟨fun _ => .inr ⟨.inl ?_, f x, ?_, ?_⟩, .of_rd (h2.rd hnm hu)⟩
            · show (relabel scope env).names.lookup x = some .cell
              rw [relabel_eq hsc]; exact hkind
            · show ((List.map (fun y => (y, f y)) (freeOf scope)).reverse).lookup x = some (f x)
              rw [← List.map_reverse]; exact lookup_pairs f _ x (List.mem_reverse.mpr hfr)
            · rcases h1 hu with ⟨q, _⟩ | ⟨_, c, hc, hval⟩
              · have q' : env.scope.names.lookup x = some .local := q
                rw [hsc, (cp.free x hfr).1] at q'; cases q'
              · have : c = f x := by have := hf x hfr; rw [hc] at this; exact Option.some.inj this
                exact this ▸ hval.keeps hGr.keep,
      fun x y xs ys hx => absurd hx (cp.noM x xs)⟩ }

/-- what the comprehension's loops leave -/
theorem comp_end {σc : List (Str × D)} {cenv : Env} {s₁ s' : Shared} {g₁ g' : Gh} {C : Addr} {ys : List Value} {k : Nat} {out : List D} {h' : Heap} (I : Inv h₁ cenv σc (Fx.start s₁ g₁) s' g') (hC : s'.heap.get? C = some (listO ys k)) (hC0 : s₁.heap.get? C = none)
    (hgC : g' C = none) (hr : RdL g' ys out) (hsame : Heap.SameBut cenv.locals s'.heap h') : Grow s₁ g₁ { s' with heap := h' } (g'.add C (listO ys k)) ∧ Rd (g'.add C (listO ys k)) (.ref C) (.list out) := by
  have hle : ∀ b o, g' b = some o → (g'.add C (listO ys k)) b = some o := fun b o e => by
    rw [Gh.add_other (fun q => by rw [q, hgC] at e; cases e)]; exact e
  have hCl : C ≠ cenv.locals := locals_ne I hC
  refine ⟨⟨fun b o e => hsame.extBut b o (ne_of_get e I.loc0.1) (I.grow.keep b o e), fun b o e => ?_, fun b o e => ?_, I.grow.os, I.grow.gens, I.grow.bare⟩, .list (Gh.add_self _ _ _) (hr.mono hle)⟩
  · rw [Gh.add_other (ne_of_get e hC0)]; exact I.grow.old b o e
  · by_cases hb : b = C
    · subst hb; rw [Gh.add_self] at e; cases e; exact hsame.extBut _ _ hCl hC
    · rw [Gh.add_other hb] at e
      exact hsame.extBut b o (fun q => by rw [q, I.locG] at e; cases e) (I.wf.sub b o e)

/-- the whole of a comprehension up to its end, given its loops -/
theorem comp_head {elt iter target : Expr} {ifs : List Expr} {rest : List Comprehension} {scope : Scope} {pos p : Pos} {σc : List (Str × D)} {d : D} {ds out : List D} {use : Option (Value → Sem Unit)}
    (hi : EvE prog w h₁ n sc σ iter d) (hit : IterE prog w h₁ d ds) (cp : Caps scope sc σ σc)
    (hloop : ∀ (A : Around) (cenv : Env) (F : Fx) (a C : Addr) (St : Nat → Heap → Gh → Prop) (R : Result → Shared → Prop) (s : Shared) (g : Gh) (k : Nat), Iter prog w a ds St → Room n A → cenv.scope = relabelS scope sc →
      F.s₀.heap.get? a = none → F.K a = none → F.s₀.heap.get? C = none → F.K C = none → Inv h₁ cenv σc F s g → St 0 s.heap g → g a = none → s.heap.get? C = some (listO [] k) → g C = none →
      (∀ s' g' ys' k', Inv h₁ cenv σc F s' g' → s'.heap.get? C = some (listO ys' k') → g' C = none → RdL g' ys' out → R (.ok .next) s') →
      codeAny (model prog w) A (.compLoop (.ListComp elt (⟨target, iter, ifs, 0⟩ :: rest) scope pos) 0 (.ref a) (.ref C) cenv) R s)
    (hs : ∀ env x, foldedSetIterable iter env x = pure x)
    (A : Around) (E : Value → Shared → Prop) (env : Env) (F : Fx) (s : Shared) (g : Gh) (Q : Value → Shared → Prop) (rm : Room n A) (hsc : env.scope = sc) (I : Inv h₁ env σ F s g)
    (hQ : ∀ (s₁ s' : Shared) (g₁ g' : Gh) (cenv : Env) (C : Addr) (ys : List Value) (k : Nat), Grow s g s₁ g₁ → Inv h₁ cenv σc (Fx.start s₁ g₁) s' g' → s'.heap.get? C = some (listO ys k) → s₁.heap.get? C = none → g' C = none → RdL g' ys out →
      compPost (model prog w) A E use Q (.ref C) cenv.locals (.ok .next) s') :
    wpAny (model prog w) A (comprehension (.ListComp elt (⟨target, iter, ifs, 0⟩ :: rest) scope pos) scope env p (newList []) false (eval iter env) use) Q E s := by
  obtain ⟨cl, hcl, _⟩ := comp_frame (prog := prog) (w := w) (s₃ := s) cp hsc I (fun _ _ e => e) rfl rfl A E
  refine wpAny_comprehension_free (g := ⟨target, iter, ifs, 0⟩) (gs := rest) rfl (hs env) hcl cp.kind cp.names ?_
  refine wpAny_mono (hi A E env F s g rm hsc I) (fun v s₁ ⟨g₁, G₁, r₁⟩ => ?_) fun _ _ x => x
  have I₁ := I.grow' G₁
  refine hit A E s₁ g₁ v _ rm.handled I₁.wf r₁ fun a h' tk St It hst hnew hkeep => ?_
  refine wpAny_newObj_type (s := { s₁ with heap := h', toks := tk }) ?_
  have hkeep2 : ∀ b o, s₁.heap.get? b = some o → (h'.push { cls := .type "list", data := .seq #[] }).get? b = some o := fun b o e => Heap.get?_push_of_some _ (hkeep b o e)
  obtain ⟨cl', hcl', hfr⟩ := comp_frame (prog := prog) (w := w) (s₃ := { s₁ with heap := h'.push { cls := .type "list", data := .seq #[] }, toks := tk }) cp hsc I₁ hkeep2 rfl rfl A E
  rw [hcl] at hcl'
  have hcc : cl' = cl := by
    have hq : (Sem.pure cl : Sem _) = Sem.pure cl' := hcl'
    injection hq with hq
    exact hq.symm
  subst hcc
  refine hfr _ fun cenv h'' tk' hloc hkeep3 hscope J => ?_
  have hga : g₁ a = none := by
    cases q : g₁ a with
    | none => rfl
    | some o' => have := I₁.wf.sub a o' q; rw [hnew] at this; cases this
  have hCnone : s₁.heap.get? h'.objs.size = none := by
    cases q : s₁.heap.get? h'.objs.size with
    | none => rfl
    | some o => exact absurd (Heap.lt_size (hkeep _ _ q)) (Nat.lt_irrefl _)
  have hgC : g₁ h'.objs.size = none := by
    cases q : g₁ h'.objs.size with
    | none => rfl
    | some o' => have := I₁.wf.sub _ o' q; rw [hCnone] at this; cases this
  have hC : h''.get? h'.objs.size = some (listO [] 0) := hkeep3 _ _ (Heap.get?_push_size _ rfl)
  have hst' : St 0 h'' g₁ := It.mono _ _ _ _ _ hst (fun o e => hkeep3 _ _ (Heap.get?_push_of_some _ e)) fun b o e => e
  have fin : codeAny (model prog w) A (.compLoop (.ListComp elt (⟨target, iter, ifs, 0⟩ :: rest) scope pos) 0 (.ref a) (.ref h'.objs.size) { cenv with scope := relabel scope env }) (compPost (model prog w) A E use Q (.ref h'.objs.size) cenv.locals) { s₁ with heap := h'', toks := tk' } :=
    hloop A { cenv with scope := relabel scope env } (Fx.start s₁ g₁) a h'.objs.size St _ _ g₁ 0 It rm hscope hnew rfl hCnone rfl J hst' hga hC hgC fun s' g' ys' k' I' hC' hgC' hr' => hQ s₁ s' g₁ g' { cenv with scope := relabel scope env } _ ys' k' G₁ I' hC' hCnone hgC' hr'
  refine codeAny_compStart_list fin ?_
  exact It.self 0 A _ { s₁ with heap := h'', toks := tk' } g₁ _ hst' fin
end
end Mine
end

-- part MComp3
section

open PySem PySem.W PyProof.Rows
set_option linter.unusedVariables false
set_option maxRecDepth 100000
namespace Mine
section
variable {prog : Program} {w : World} {h₁ : Heap} {n : Nat} {sc : Scope} {σ σ' σ'' : List (Str × D)}

noncomputable def LoopE (prog : Program) (w : World) (h₁ : Heap) (n : Nat) (scR : Scope) (σc : List (Str × D)) (e : Expr) (depth : Nat) (ds out : List D) : Prop :=
  ∀ (A : Around) (cenv : Env) (F : Fx) (a C : Addr) (St : Nat → Heap → Gh → Prop) (R : Result → Shared → Prop) (s : Shared) (g : Gh) (ys : List Value) (k : Nat) (out₀ : List D), Iter prog w a ds St → Room n A → cenv.scope = scR →
    F.s₀.heap.get? a = none → F.K a = none → F.s₀.heap.get? C = none → F.K C = none → Inv h₁ cenv σc F s g → St 0 s.heap g → g a = none → s.heap.get? C = some (listO ys k) → g C = none → RdL g ys out₀ → out₀.length + out.length ≤ 1000 →
    (∀ s' g' ys' k', Inv h₁ cenv σc F s' g' → s'.heap.get? C = some (listO ys' k') → g' C = none → RdL g' ys' (out₀ ++ out) → R (.ok .next) s') →
    codeAny (model prog w) A (.compLoop e depth (.ref a) (.ref C) cenv) R s

/-- the last clause of a comprehension (one clause in all) -/
theorem LoopE.one {elt target iter : Expr} {ifs : List Expr} {scope : Scope} {pos : Pos} {σc : List (Str × D)} {f : D → List D} {ds : List D} (hno : NoM σc)
    (hitem : ∀ d ∈ ds, ∃ σm, AsgE prog w h₁ sc σc target d σm ∧ Weak σm σc ∧ NoM σm ∧ ((TestsE prog w h₁ n sc σm ifs true ∧ ∃ r, EvE prog w h₁ n sc σm elt r ∧ f d = [r]) ∨ (TestsE prog w h₁ n sc σm ifs false ∧ f d = []))) :
    LoopE prog w h₁ n sc σc (.ListComp elt [⟨target, iter, ifs, 0⟩] scope pos) 0 ds (ds.flatMap f) := fun A cenv F a C St R s g ys k out₀ It rm hsc h0a hKa h0C hKC I hst hga hC hgC hr hz hR => by
  refine comp_loop (σc := σc) (f := f) (ds := ds) (target := target) (iter := iter) (ifs := ifs) (p := iter.pos) (T := fun env acc => do let _ ← call (.builtin "list.append") [acc, ← eval elt env])
    (fun it acc env => rfl) (fun _ _ _ => rfl) (fun _ _ _ => rfl) (fun _ _ _ => rfl) (fun _ _ _ => rfl) hno (fun d hd => ?_) A cenv F a C St It rm hsc h0a hKa h0C hKC R ds.length 0 s g ys k out₀ (by omega) (Nat.zero_le _) I hst hga hC hgC hr
    (by rw [List.drop_zero]; exact hz) (by rw [List.drop_zero]; exact hR)
  obtain ⟨σm, h1, h2, h3, ⟨h4, r, h5, h6⟩ | ⟨h4, h5⟩⟩ := hitem d hd
  · exact ⟨σm, true, h1, h2, h3, h4, fun _ => h6 ▸ AccE.emit h3 h5, fun q => by cases q⟩
  · exact ⟨σm, false, h1, h2, h3, h4, (fun q => by cases q), fun _ => h5⟩

/-- the second clause of two -/
theorem LoopE.second {elt target t1 iter i1 : Expr} {ifs1 ifs : List Expr} {scope : Scope} {pos : Pos} {σc : List (Str × D)} {f : D → List D} {ds : List D} (hno : NoM σc)
    (hitem : ∀ d ∈ ds, ∃ σm, AsgE prog w h₁ sc σc target d σm ∧ Weak σm σc ∧ NoM σm ∧ ((TestsE prog w h₁ n sc σm ifs true ∧ ∃ r, EvE prog w h₁ n sc σm elt r ∧ f d = [r]) ∨ (TestsE prog w h₁ n sc σm ifs false ∧ f d = []))) :
    LoopE prog w h₁ n sc σc (.ListComp elt [⟨t1, i1, ifs1, 0⟩, ⟨target, iter, ifs, 0⟩] scope pos) 1 ds (ds.flatMap f) := fun A cenv F a C St R s g ys k out₀ It rm hsc h0a hKa h0C hKC I hst hga hC hgC hr hz hR => by
  refine comp_loop (σc := σc) (f := f) (ds := ds) (target := target) (iter := iter) (ifs := ifs) (p := iter.pos) (T := fun env acc => do let _ ← call (.builtin "list.append") [acc, ← eval elt env])
    (fun it acc env => rfl) (fun _ _ _ => rfl) (fun _ _ _ => rfl) (fun _ _ _ => rfl) (fun _ _ _ => rfl) hno (fun d hd => ?_) A cenv F a C St It rm hsc h0a hKa h0C hKC R ds.length 0 s g ys k out₀ (by omega) (Nat.zero_le _) I hst hga hC hgC hr
    (by rw [List.drop_zero]; exact hz) (by rw [List.drop_zero]; exact hR)
  obtain ⟨σm, h1, h2, h3, ⟨h4, r, h5, h6⟩ | ⟨h4, h5⟩⟩ := hitem d hd
  · exact ⟨σm, true, h1, h2, h3, h4, fun _ => h6 ▸ AccE.emit h3 h5, fun q => by cases q⟩
  · exact ⟨σm, false, h1, h2, h3, h4, (fun q => by cases q), fun _ => h5⟩

theorem codeAny_compStart_at {A : Around} {R : Result → Shared → Prop} {s : Shared} {elt : Expr} {gens : List Comprehension} {scope : Scope} {pos : Pos} {depth : Nat} {it acc : Value} {env : Env} {c : Comprehension}
    (hc : gens[depth]? = some c) (ha : c.is_async = 0)
    (h0 : codeAny (model prog w) A (.compLoop (.ListComp elt gens scope pos) depth it acc env) R s)
    (h : wpAny (model prog w) A (pyIter it) (fun it' s' => codeAny (model prog w) A (.compLoop (.ListComp elt gens scope pos) depth it' acc env) R s')
      (notedBy (model prog w) A env fun x s' => R (.error x) s') s) :
    codeAny (model prog w) A (.compStart (.ListComp elt gens scope pos) depth it acc env) R s := by
  refine codeAny_of_tree ?_
  show wpAny _ _ ((compStart (.ListComp elt gens scope pos) depth it acc env).onRaise (fun x => do noteFrame x env; standAt theWindowsPlace)) _ _ s
  refine wpAny_notedAt ?_
  unfold compStart
  have hcl : clausesOf (.ListComp elt gens scope pos) = gens := rfl
  rw [hcl, hc]
  simp only [Option.elim, ha]
  rw [if_neg (by decide)]
  refine wpAny_bind (wpAny_askSetting (wpAny_ite ?_))
  split
  · exact wpAny_pure (And.intro rfl h0)
  · refine wpAny_bind (wpAny_rule ?_)
    exact wpAny_bind (wpAny_standAt (wpAny_bind (wpAny_mono h (fun it' s' h' => wpAny_pure (And.intro rfl h')) fun _ _ x => x)))

theorem AccE.inner {elt target t1 iter i1 : Expr} {ifs1 ifs : List Expr} {scope : Scope} {pos : Pos} {d : D} {ds zs : List D} (hno : NoM σ) (hi : EvE prog w h₁ n sc σ iter d) (hit : IterE prog w h₁ d ds)
    (hl : LoopE prog w h₁ n sc σ (.ListComp elt [⟨t1, i1, ifs1, 0⟩, ⟨target, iter, ifs, 0⟩] scope pos) 1 ds zs) (hs : ∀ env x, foldedSetIterable iter env x = pure x) :
    AccE prog w h₁ n sc σ (fun env acc => do
      let x ← eval iter env
      standAt iter.pos
      let x ← foldedSetIterable iter env x
      let _ ← runOwn (.compStart (.ListComp elt [⟨t1, i1, ifs1, 0⟩, ⟨target, iter, ifs, 0⟩] scope pos) 1 (← holding [x] (pyIter x)) acc env) env) zs := fun A E env F s g C ys k out rm hsc I hC hgC h0 hK hr hz => by
  refine wpAny_bind (wpAny_mono (hi A E env F s g rm hsc I) (fun v s₁ ⟨g₁, G₁, r₁⟩ => ?_) fun _ _ x => x)
  have I₁ := I.grow' G₁
  refine wpAny_bind (wpAny_standAt (wpAny_bind (wpAny_of_eq (hs env v) (wpAny_bind (wpAny_holding ?_)))))
  refine hit A E s₁ g₁ v _ rm.handled I₁.wf r₁ fun a h' tk St It hst hnew hkeep => ?_
  have G₂ : Grow s₁ g₁ { s₁ with heap := h', toks := tk } g₁ := Grow.kept I₁.wf.sub hkeep rfl rfl
  have I₂ := I₁.grow' G₂
  have hga : g₁ a = none := by
    cases q : g₁ a with
    | none => rfl
    | some o' => have := I₁.wf.sub a o' q; rw [hnew] at this; cases this
  have h0a : F.s₀.heap.get? a = none := by
    cases q : F.s₀.heap.get? a with
    | none => rfl
    | some o' => have := I₁.grow.keep a o' q; rw [hnew] at this; cases this
  have hKa : F.K a = none := by
    cases q : F.K a with
    | none => rfl
    | some o' => have := I₁.prot a o' q; rw [hnew] at this; cases this
  refine wpAny_bind (wpAny_runOwn ?_)
  have fin : codeAny (model prog w) (A.mark none) (.compLoop (.ListComp elt [⟨t1, i1, ifs1, 0⟩, ⟨target, iter, ifs, 0⟩] scope pos) 1 (.ref a) (.ref C) env)
      (fun r s' => match r with
        | .ok f => wpAny (model prog w) A (pure ()) (fun _ s' => ∃ g' ys' k', Inv h₁ env σ F s' g' ∧ s'.heap.get? C = some (listO ys' k') ∧ g' C = none ∧ RdL g' ys' (out ++ zs)) E s'
        | .error e => cameBackBy (model prog w) A env E e s') { s₁ with heap := h', toks := tk } := by
    refine hl (A.mark none) env F a C St _ _ g₁ ys k out It ?_ hsc h0a hKa h0 hK I₂ hst hga (hkeep _ _ (G₁.keep _ _ hC)) ((G₁.old _ _ hC).trans hgC) (hr.mono (G₁.le I.wf.sub)) hz ?_
    · exact ⟨by show (none.or A.handled) = none; rw [rm.handled]; rfl, rm.depth, rm.units⟩
    · intro s' g' ys' k' I' hC' hgC' hr'
      exact wpAny_pure ⟨g', ys', k', I', hC', hgC', hr'⟩
  refine codeAny_compStart_at (c := ⟨target, iter, ifs, 0⟩) rfl rfl fin ?_
  exact It.self 0 _ _ { s₁ with heap := h', toks := tk } g₁ _ hst fin

theorem compTurn_two (elt target t1 iter i1 : Expr) (scope : Scope) (pos : Pos) (it acc : Value) (env : Env) :
    compTurn (.ListComp elt [⟨t1, i1, [], 0⟩, ⟨target, iter, [], 0⟩] scope pos) 0 it acc env = (do
      standAt i1.pos
      match ← pyNext it with
      | none => pure (.done .next)
      | some v =>
        letOwnedTupleGo t1 it v
        assign t1 env v
        let ok ← forIn ([] : List Expr) true fun c r => if r = true then do let ok ← isTrue c env (eval c env); pure (ForInStep.yield ok) else pure (ForInStep.yield r)
        if ok = true then do
          (do
            let x ← eval iter env
            standAt iter.pos
            let x ← foldedSetIterable iter env x
            let _ ← runOwn (.compStart (.ListComp elt [⟨t1, i1, [], 0⟩, ⟨target, iter, [], 0⟩] scope pos) 1 (← holding [x] (pyIter x)) acc env) env
            pure () : Sem Unit)
          again (.compLoop (.ListComp elt [⟨t1, i1, [], 0⟩, ⟨target, iter, [], 0⟩] scope pos) 0 it acc env)
        else again (.compLoop (.ListComp elt [⟨t1, i1, [], 0⟩, ⟨target, iter, [], 0⟩] scope pos) 0 it acc env)) := by
  have e : compTurn (.ListComp elt [⟨t1, i1, [], 0⟩, ⟨target, iter, [], 0⟩] scope pos) 0 it acc env = (do
      standAt i1.pos
      match ← pyNext it with
      | none => pure (.done .next)
      | some v =>
        letOwnedTupleGo t1 it v
        assign t1 env v
        let ok ← forIn ([] : List Expr) true fun c r => if r = true then do let ok ← isTrue c env (eval c env); pure (ForInStep.yield ok) else pure (ForInStep.yield r)
        if ok = true then do
          let x ← eval iter env
          standAt iter.pos
          let x ← foldedSetIterable iter env x
          let _ ← runOwn (.compStart (.ListComp elt [⟨t1, i1, [], 0⟩, ⟨target, iter, [], 0⟩] scope pos) 1 (← holding [x] (pyIter x)) acc env) env
          again (.compLoop (.ListComp elt [⟨t1, i1, [], 0⟩, ⟨target, iter, [], 0⟩] scope pos) 0 it acc env)
        else again (.compLoop (.ListComp elt [⟨t1, i1, [], 0⟩, ⟨target, iter, [], 0⟩] scope pos) 0 it acc env)) := rfl
  rw [e]
  simp only [bind_assoc, pure_bind]

/-- two clauses: what the first one's loop adds -/
theorem LoopE.two {elt target t1 iter i1 : Expr} {scope : Scope} {pos : Pos} {σc : List (Str × D)} {f : D → List D} {ds : List D} (hno : NoM σc)
    (hs : ∀ env x, foldedSetIterable iter env x = pure x)
    (hitem : ∀ d ∈ ds, ∃ σm d2 ds2, AsgE prog w h₁ sc σc t1 d σm ∧ Weak σm σc ∧ NoM σm ∧ EvE prog w h₁ n sc σm iter d2 ∧ IterE prog w h₁ d2 ds2 ∧
      LoopE prog w h₁ n sc σm (.ListComp elt [⟨t1, i1, [], 0⟩, ⟨target, iter, [], 0⟩] scope pos) 1 ds2 (f d)) :
    LoopE prog w h₁ n sc σc (.ListComp elt [⟨t1, i1, [], 0⟩, ⟨target, iter, [], 0⟩] scope pos) 0 ds (ds.flatMap f) := fun A cenv F a C St R s g ys k out₀ It rm hsc h0a hKa h0C hKC I hst hga hC hgC hr hz hR => by
  refine comp_loop (σc := σc) (f := f) (ds := ds) (target := t1) (iter := i1) (ifs := []) (p := i1.pos) (T := fun env acc => do
      let x ← eval iter env
      standAt iter.pos
      let x ← foldedSetIterable iter env x
      let _ ← runOwn (.compStart (.ListComp elt [⟨t1, i1, [], 0⟩, ⟨target, iter, [], 0⟩] scope pos) 1 (← holding [x] (pyIter x)) acc env) env)
    (fun it acc env => compTurn_two ..) (fun _ _ _ => rfl) (fun _ _ _ => rfl) (fun _ _ _ => rfl) (fun _ _ _ => rfl) hno (fun d hd => ?_) A cenv F a C St It rm hsc h0a hKa h0C hKC R ds.length 0 s g ys k out₀ (by omega) (Nat.zero_le _) I hst hga hC hgC hr
    (by rw [List.drop_zero]; exact hz) (by rw [List.drop_zero]; exact hR)
  obtain ⟨σm, d2, ds2, h1, h2, h3, h4, h5, h6⟩ := hitem d hd
  exact ⟨σm, true, h1, h2, h3, rfl, fun _ => AccE.inner h3 h4 h5 h6 hs, fun q => by cases q⟩

theorem EvE.comp {elt iter target : Expr} {ifs : List Expr} {rest : List Comprehension} {scope : Scope} {pos : Pos} {σc : List (Str × D)} {d : D} {ds out : List D}
    (hi : EvE prog w h₁ n sc σ iter d) (hit : IterE prog w h₁ d ds) (cp : Caps scope sc σ σc)
    (hl : LoopE prog w h₁ n (relabelS scope sc) σc (.ListComp elt (⟨target, iter, ifs, 0⟩ :: rest) scope pos) 0 ds out) (hz : out.length ≤ 1000)
    (hs : ∀ env x, foldedSetIterable iter env x = pure x := by intro _ _; rfl) :
    EvE prog w h₁ n sc σ (.ListComp elt (⟨target, iter, ifs, 0⟩ :: rest) scope pos) (.list out) := fun A E env F s g rm hsc I => by
  rw [eval_ListComp]
  refine comp_head (out := out) (use := none) hi hit cp (fun A cenv F a C St R s g k It rm hsc h0a hKa h0C hKC I hst hga hC hgC hR => hl A cenv F a C St R s g [] k [] It rm hsc h0a hKa h0C hKC I hst hga hC hgC .nil (by simpa using hz) (by simpa using hR)) hs A E env F s g _ rm hsc I
    fun s₁ s' g₁ g' cenv C ys k G₁ I' hC hC0 hgC hr => ?_
  obtain ⟨m, ρ, hn, _⟩ := I'.vals
  refine ⟨m, hn, fun h' hsame => ?_⟩
  obtain ⟨G, r⟩ := comp_end I' hC hC0 hgC hr hsame
  exact ⟨_, G₁.trans G, r⟩

/-- a comprehension stored at a local name on its own row -/
theorem ExS.assign_comp {x : Str} {px spos : Pos} {elt iter target : Expr} {ifs : List Expr} {rest : List Comprehension} {scope : Scope} {pos : Pos} {σc : List (Str × D)} {d : D} {ds out : List D}
    (hi : EvE prog w h₁ n sc σ iter d) (hit : IterE prog w h₁ d ds) (cp : Caps scope sc σ σc)
    (hl : LoopE prog w h₁ n (relabelS scope sc) σc (.ListComp elt (⟨target, iter, ifs, 0⟩ :: rest) scope pos) 0 ds out) (hz : out.length ≤ 1000) (hset : Set1 x (.list out) σ σ') (hno : NoM σ') (hk : sc.names.lookup x = some .local)
    (hsw : ∀ env, env.scope = sc → swapsWith (.ListComp elt (⟨target, iter, ifs, 0⟩ :: rest) scope pos) (some (.Name x px)) spos.line env = pure true)
    (hs : ∀ env x, foldedSetIterable iter env x = pure x := by intro _ _; rfl) :
    ExS prog w h₁ n sc σ (.Assign [.Name x px] (.ListComp elt (⟨target, iter, ifs, 0⟩ :: rest) scope pos) spos) (.next σ') := fun A E env F s g rm hsc ow I => by
  rw [exec_Assign_Name_used _ _ _ _ (hsw env hsc)]
  refine wpAny_bind (wpAny_standAt (wpAny_bind ?_))
  show wpAny _ A (do let _ ← comprehension (.ListComp elt (⟨target, iter, ifs, 0⟩ :: rest) scope pos) scope env _ (newList []) false (eval iter env) (some (PySem.assign (.Name x px) env))) _ _ s
  refine wpAny_bind (wpAny_mono (comp_head (Q := fun _ s' => Post h₁ env F (.next σ') .next s') (out := out) (use := some (PySem.assign (.Name x px) env)) hi hit cp (fun A cenv F a C St R s g k It rm hsc h0a hKa h0C hKC I hst hga hC hgC hR => hl A cenv F a C St R s g [] k [] It rm hsc h0a hKa h0C hKC I hst hga hC hgC .nil (by simpa using hz) (by simpa using hR)) hs A E env F s g rm hsc I
    fun s₁ s' g₁ g' cenv C ys k G₁ I' hC hC0 hgC hr => ?_) (fun _ s' hq => wpAny_pure (wpAny_pure hq)) fun _ _ e => e)
  obtain ⟨G, r⟩ := comp_end I' hC hC0 hgC hr (Heap.SameBut.refl _ _)
  have I₁ := I.grow' G₁
  have I₂ : Inv h₁ env σ F s' (g'.add C (listO ys k)) := I₁.grow' G
  have hCl : s₁.heap.get? cenv.locals = none := I'.loc0.1
  have hgl : (g'.add C (listO ys k)) cenv.locals = none := by rw [Gh.add_other (Ne.symm (locals_ne I' hC))]; exact I'.locG
  obtain ⟨m', ρ', hn', _⟩ := I'.vals
  show wpAny _ A (PySem.assign (.Name x px) env (.ref C)) _ _ s'
  refine wpAny_assign_Name ?_
  -- the inner frame's locals are kept by the store
  have Ip : Inv h₁ env σ (F.with cenv.locals (Classical.choose hn') (g'.add C (listO ys k))) s' (g'.add C (listO ys k)) := by
    obtain ⟨m, ρ, hn, hv, hm⟩ := I₁.vals
    obtain ⟨es, ep, ho, _⟩ := Classical.choose_spec hn'
    obtain ⟨m2, ρ2, hn2, hv2, hm2⟩ := I₂.vals
    have hal : cenv.locals ≠ env.locals := fun q => by
      obtain ⟨o, es', ep', ho', _⟩ := hn
      rw [← q, hCl] at ho'; cases ho'
    exact { I₂ with
      prot := fun b o' e => by
        by_cases hb : b = cenv.locals
        · subst hb; simp only [Fx.with, Gh.add_self] at e; cases e; exact ho
        · simp only [Fx.with, Gh.add_other hb] at e; exact I₂.prot b o' e
      protF := fun b o' e => e
      protN := fun b o' e => by
        by_cases hb : b = cenv.locals
        · subst hb; exact hgl
        · simp only [Fx.with, Gh.add_other hb] at e; exact I₂.protN b o' e
      loc0 := ⟨I₂.loc0.1, by simp only [Fx.with, Gh.add_other (Ne.symm hal)]; exact I₂.loc0.2⟩
      vals := ⟨m2, ρ2, hn2, fun y e hy => ⟨(hv2 y e hy).1, by
        have hb := (hv2 y e hy).2
        cases e with
        | mlist xs =>
          obtain ⟨b, vs, j, e2, h02, hg2, ho2, hr2⟩ := hb
          refine ⟨b, vs, j, e2, ⟨h02.1, ?_⟩, hg2, ho2, hr2⟩
          have hne : b ≠ cenv.locals := fun q => by
            obtain ⟨es, ep, ho, hd, _⟩ := Classical.choose_spec hn'
            rw [q, ho] at ho2; have := Option.some.inj ho2; rw [this] at hd; cases hd
          simp only [Fx.with, Gh.add_other hne]; exact h02.2
        | _ => exact hb⟩, hm2⟩ }
  refine wpAny_mono (Ip.store_rd hset r (.inl (by subst hsc; exact hk))) (fun _ s'' I₃ => ?_) fun _ _ x => x
  obtain ⟨es, ep, ho, hd, hrest⟩ := Classical.choose_spec hn'
  have hKl : F.K cenv.locals = none := by
    cases q : F.K cenv.locals with
    | none => rfl
    | some o' => have := I₁.prot _ o' q; rw [hCl] at this; cases this
  have h0l : F.s₀.heap.get? cenv.locals = none := by
    cases q : F.s₀.heap.get? cenv.locals with
    | none => rfl
    | some o' => have := I₁.grow.keep _ o' q; rw [hCl] at this; cases this
  refine ⟨m', ⟨_, es, ep, I₃.prot _ _ (Gh.add_self _ _ _), hd, hrest⟩, fun h' hsame => ?_⟩
  have I₄ := I₃.unprotect hKl I₂.protF
  have hal : cenv.locals ≠ env.locals := fun q => by
    obtain ⟨m, ρ, ⟨o, es', ep', ho', _⟩, _⟩ := I₁.vals
    rw [← q, hCl] at ho'; cases ho'
  refine ⟨_, rfl, I₄.tickN (tk := s''.toks) hno hal (fun c v ⟨o, hco, hcd⟩ q => ?_) hgl h0l hKl fun b o hb e => hsame.extBut b o hb e⟩
  have := I₃.prot _ _ (Gh.add_self _ _ _)
  rw [q, this] at hco
  have := Option.some.inj hco
  rw [← this, hd] at hcd
  cases hcd
end
end Mine
end

-- part MFn
section

open PySem PySem.W PyProof.Rows
set_option linter.unusedVariables false
set_option maxRecDepth 100000
namespace Mine
theorem cells_have {x : Str} : ∀ (l : List (Str × NameKind)) (n : Nat) (acc : List (Str × Addr)), (l.lookup x = some .cell ∨ (acc.lookup x).isSome = true) → ((cellsFrom n l acc).lookup x).isSome = true := by
  intro l
  induction l with
  | nil =>
    intro n acc h
    rcases h with h | h
    · cases h
    · exact h
  | cons p r ih =>
    intro n acc h
    obtain ⟨y, k⟩ := p
    rw [cellsFrom]
    by_cases hy : x = y
    · subst hy
      split
      · exact ih _ _ (.inr (by simp))
      · rename_i hk
        refine ih _ _ (h.imp (fun q => ?_) id)
        simp at q
        subst q
        exact absurd rfl hk
    · have hb : (x == y) = false := by simpa using hy
      split
      · exact ih _ _ (h.imp (fun q => by rw [List.lookup_cons, hb] at q; exact q) fun q => by rw [List.lookup_cons, hb]; exact q)
      · exact ih _ _ (h.imp (fun q => by rw [List.lookup_cons, hb] at q; exact q) id)

theorem bindL_other (kindOf : Str → Option NameKind) : ∀ (binds : List (Str × Value)) (m : Str → Option Value) (x : Str), x ∉ binds.map (·.1) → bindL kindOf binds m x = m x
  | [], _, _, _ => rfl
  | (y, v) :: r, m, x, h => by
    simp only [List.map_cons, List.mem_cons, not_or] at h
    rw [bindL, bindL_other kindOf r _ x h.2]
    split
    · simp [h.1]
    · rfl
theorem bindL_mem (kindOf : Str → Option NameKind) : ∀ (binds : List (Str × Value)) (m : Str → Option Value) (x : Str) (v : Value), (binds.map (·.1)).Nodup → (x, v) ∈ binds → kindOf x = some .local → bindL kindOf binds m x = some v
  | (y, u) :: r, m, x, v, hn, h, hk => by
    rw [List.map_cons, List.nodup_cons] at hn
    rcases List.mem_cons.mp h with h | h
    · cases h
      rw [bindL, bindL_other kindOf r _ _ hn.1, if_pos hk]; simp
    · rw [bindL]; exact bindL_mem kindOf r _ x v hn.2 h hk
theorem bindC_other (kindOf : Str → Option NameKind) : ∀ (binds : List (Str × Value)) (m : Str → Option Value) (x : Str), x ∉ binds.map (·.1) → bindC kindOf binds m x = m x
  | [], _, _, _ => rfl
  | (y, v) :: r, m, x, h => by
    simp only [List.map_cons, List.mem_cons, not_or] at h
    rw [bindC, bindC_other kindOf r _ x h.2]
    split
    · rfl
    · simp [h.1]
theorem bindC_mem (kindOf : Str → Option NameKind) : ∀ (binds : List (Str × Value)) (m : Str → Option Value) (x : Str) (v : Value), (binds.map (·.1)).Nodup → (x, v) ∈ binds → kindOf x = some .cell → bindC kindOf binds m x = some v
  | (y, u) :: r, m, x, v, hn, h, hk => by
    rw [List.map_cons, List.nodup_cons] at hn
    rcases List.mem_cons.mp h with h | h
    · cases h
      rw [bindC, bindC_other kindOf r _ _ hn.1, if_neg (by rw [hk]; intro q; cases q)]; simp
    · rw [bindC]; exact bindC_mem kindOf r _ x v hn.2 h hk
theorem RdL.zip {g : Gh} : ∀ {vs : List Value} {ds : List D} (xs : List Str), RdL g vs ds → ∀ x d, (x, d) ∈ xs.zip ds → ∃ v, (x, v) ∈ xs.zip vs ∧ Rd g v d
  | _, _, [], _, x, d, h => by simp at h
  | _, _, y :: xs, .nil, x, d, h => by simp at h
  | _, _, y :: xs, .cons hv hs, x, d, h => by
    rw [List.zip_cons_cons] at h
    rcases List.mem_cons.mp h with h | h
    · cases h; exact ⟨_, List.mem_cons_self .., hv⟩
    · obtain ⟨v, hm, hr⟩ := hs.zip xs x d h
      exact ⟨v, List.mem_cons_of_mem _ hm, hr⟩
theorem zip_keys : ∀ (xs : List Str) (vs : List Value), xs.length = vs.length → (xs.zip vs).map (·.1) = xs
  | [], [], _ => rfl
  | x :: xs, v :: vs, h => by simp only [List.zip_cons_cons, List.map_cons]; rw [zip_keys xs vs (by simpa using h)]

section
variable {prog : Program} {w : World} {h₁ : Heap} {mg mb : Str → Option Value} {n : Nat} {sc : Scope} {σ σ' σ'' : List (Str × D)}

/-- a call of a def of the text -/
theorem CallE.fn (B : Bs h₁ mg mb) {name : Str} {params : Arguments} {body : List Stmt} {scope : Scope} {pm cd doc : Value} {a : Addr} {o : Obj} {xs : List Str} {ds : List D} {d : D} {σ₀ : List (Str × D)}
    (ho : h₁.get? a = some o) (hd : o.data = .func (Calls.docDef name params body scope pm cd doc)) (hcd : h₁.CodeRec cd name)
    (hbind : ∀ vs : List Value, vs.length = xs.length → bindArgs (Calls.docDef name params body scope pm cd doc) ⟨vs, []⟩ = pure (xs.zip vs))
    (hlen : xs.length = ds.length) (hxs : xs.Nodup) (hkind : ∀ x ∈ xs, scope.names.lookup x = some .local ∨ scope.names.lookup x = some .cell)
    (hσ : ∀ p ∈ σ₀, p.2 = .unset ∨ p ∈ xs.zip ds) (hnd : (σ₀.map (·.1)).Nodup) (hno : NoM σ₀)
    (hbody : ExL prog w h₁ n scope σ₀ body (.ret d)) (hco : scope.isCoroutine = false := by rfl) (hgen : scope.isGenerator = false := by rfl) (hk : scope.kind = .function := by rfl) :
    CallE prog w h₁ (n + 1) (.ref a) ds d := fun A E s g vs rm W r => by
  have hvl : vs.length = xs.length := by rw [hlen]; exact r.length
  refine wpAny_call (call_cells_ret (binds := xs.zip vs) rm.depth_lt (W.keep1 _ _ ho) hd (B.nolimit.keeps W.keep1) (hcd.keeps W.keep1) (hbind vs hvl) (fun x hx => ?_) (fun h' tk F X => ?_) hco hgen hk)
  · have hm : x.1 ∈ xs := by have := List.mem_map_of_mem (f := (·.1)) hx; rwa [zip_keys xs vs hvl.symm] at this
    exact (hkind x.1 hm).imp id fun h => ⟨h, cells_have _ _ _ (.inl h)⟩
  have hknd : ((xs.zip vs).map (·.1)).Nodup := by rw [zip_keys xs vs hvl.symm]; exact hxs
  have hGr : Grow s g { s with heap := h', toks := tk } g := Grow.kept W.sub F.keep rfl rfl
  have hnone : s.heap.get? s.heap.objs.size = none := get?_none_of_size (Nat.le_refl _)
  have gnone : ∀ c, s.heap.get? c = none → g c = none := fun c hc => by
    cases q : g c with
    | none => rfl
    | some o' => have := W.sub c o' q; rw [hc] at this; cases this
  have I : Inv h₁ (envOfC name scope s.heap.objs.size a cd) σ₀ (Fx.start s g) { s with heap := h', toks := tk } g := {
    wf := W.grow hGr
    grow := hGr
    prot := fun _ _ e => by cases e
    protG := fun _ _ e => by cases e
    protF := fun _ _ e => by cases e
    protN := fun _ _ e => by cases e
    fn := hk
    gl := rfl
    bl := rfl
    loc0 := ⟨hnone, rfl⟩
    locG := gnone _ hnone
    cellG := fun x c e => ⟨gnone c (get?_none_of_size (Nat.le_of_lt (X.above x c (mem_of_lookup e)))), _, X.cell x c e⟩
    cellInj := fun x y c ex ey => name_of_addr X.apart (mem_of_lookup ex) (mem_of_lookup ey)
    nodup := hnd
    vals := by
      refine ⟨_, fun x => ((xs.zip vs).lookup x).getD .none, F.ns, fun x e hx => ?_, fun x y ys zs hx => absurd hx (hno x ys)⟩
      rcases hσ (x, e) hx with hu | hm
      · dsimp only at hu; subst hu; exact ⟨fun q => absurd rfl q, trivial⟩
      · obtain ⟨v, hmv, hr⟩ := r.zip xs x e hm
        have hlook : (xs.zip vs).lookup x = some v := lookup_of_mem_nodup hknd hmv
        have hxm : x ∈ xs := by have := List.mem_map_of_mem (f := (·.1)) hmv; rwa [zip_keys xs vs hvl.symm] at this
        refine ⟨fun _ => ?_, ?_⟩
        · dsimp only; rw [hlook]
          rcases hkind x hxm with hl | hl
          · exact .inl ⟨hl, bindL_mem _ _ _ _ _ hknd hmv hl⟩
          · have hs := cells_have (x := x) scope.names (s.heap.objs.size + 1) [] (.inl hl)
            obtain ⟨c, hc⟩ := Option.isSome_iff_exists.mp hs
            refine .inr ⟨.inl hl, c, hc, ?_⟩
            have := X.cell x c hc
            rw [bindC_mem _ _ _ _ _ hknd hmv hl] at this
            exact this
        · dsimp only; rw [hlook]; exact .of_rd hr }
  have ow : Own (envOfC name scope s.heap.objs.size a cd) (Fx.start s g) := ⟨fun x c e => ⟨get?_none_of_size (Nat.le_of_lt (X.above x c (mem_of_lookup e))), rfl⟩, fun x hx => cells_have _ _ _ (.inl hx)⟩
  refine wpAny_mono (hbody (A.deeper _) (fun _ _ => False) _ _ _ g (rm.deeper _) rfl ow I) (fun fl s' ⟨g', v, e, G, hr, _⟩ => ?_) fun _ _ x => x
  subst e
  exact ⟨g', G, hr⟩
where
  lookup_of_mem_nodup : ∀ {l : List (Str × Value)} {x : Str} {v : Value}, (l.map (·.1)).Nodup → (x, v) ∈ l → l.lookup x = some v
    | (y, u) :: r, x, v, hn, h => by
      rw [List.map_cons, List.nodup_cons] at hn
      rcases List.mem_cons.mp h with h | h
      · cases h; simp
      · have hne : (x == y) = false := by
          have : x ≠ y := fun q => hn.1 (q ▸ List.mem_map_of_mem (f := (·.1)) h)
          simpa using this
        rw [List.lookup_cons, hne]
        exact lookup_of_mem_nodup hn.2 h

/-- while, k turns -/
theorem ExS.while_ {test : Expr} {body : List Stmt} {pos : Pos} (σs : Nat → List (Str × D)) (hσ : σs 0 = σ) (k : Nat)
    (step : ∀ i, i < k → EvB prog w h₁ n sc (σs i) test true ∧ ExL prog w h₁ n sc (σs i) body (.next (σs (i + 1)))) (fin : EvB prog w h₁ n sc (σs k) test false) :
    ExS prog w h₁ n sc σ (.While test body [] pos) (.next (σs k)) := fun A E env F s g rm hsc ow I => by
  refine wpAny_While (codeAny_whileLoop (fun m s => ∃ i g, m = k - i ∧ i ≤ k ∧ Inv h₁ env (σs i) F s g) (fun m s ⟨i, g, hm, hi, I⟩ => ?_) k ⟨0, g, rfl, Nat.zero_le _, hσ ▸ I⟩)
  by_cases hik : i = k
  · subst hik
    refine wpAny_mono (fin A _ env F s g rm hsc I) (fun b s₁ ⟨e, g₁, G₁⟩ => ?_) fun _ _ x => x
    subst e
    exact wpAny_execs_nil ⟨g₁, rfl, I.grow' G₁⟩
  · have hlt : i < k := by omega
    obtain ⟨ht, hb⟩ := step i hlt
    refine wpAny_mono (ht A _ env F s g rm hsc I) (fun b s₁ ⟨e, g₁, G₁⟩ => ?_) fun _ _ x => x
    subst e
    refine wpAny_mono (hb A _ env F s₁ g₁ rm hsc ow (I.grow' G₁)) (fun fl s₂ ⟨g₂, e, I₂⟩ => ?_) fun _ _ x => x
    subst e
    exact ⟨k - (i + 1), by omega, i + 1, g₂, rfl, hlt, I₂⟩

/-- a growing list is frozen: it is not changed any more -/
theorem Inv.freeze {env : Env} {F : Fx} {s : Shared} {g : Gh} {x : Str} {xs : List D} (I : Inv h₁ env σ F s g) (hx : (x, D.mlist xs) ∈ σ) (hset : Set1 x (.list xs) σ σ') : ∃ g', Inv h₁ env σ' F s g' := by
  obtain ⟨m, ρ, hn, hv, hm⟩ := I.vals
  obtain ⟨h1, a, vs, k, e, h0, hg, ho, hr⟩ := hv x _ hx
  have hle : ∀ b o, g b = some o → (g.add a (listO vs k)) b = some o := fun b o q => by
    rw [Gh.add_other (fun h => by rw [h, hg] at q; cases q)]; exact q
  have hother : ∀ b, b ≠ a → (g.add a (listO vs k)) b = g b := fun b hb => Gh.add_other hb
  have hal : env.locals ≠ a := fun q => by
    obtain ⟨o, es, ep, ho2, hd2, _⟩ := hn
    rw [q, ho] at ho2; cases ho2; cases hd2
  have hmem := hset.mem I.nodup
  refine ⟨g.add a (listO vs k), {
    wf := ⟨fun b o q => ?_, fun b o q => hle _ _ (I.wf.base b o q)⟩
    grow := ⟨I.grow.keep, fun b o q => ?_, fun b o q => ?_, I.grow.os, I.grow.gens, I.grow.bare⟩
    prot := I.prot
    protG := I.protG
    protF := fun b o q => hle _ _ (I.protF b o q)
    protN := fun b o q => ?_
    fn := I.fn
    gl := I.gl
    bl := I.bl
    loc0 := I.loc0
    locG := by rw [hother _ hal]; exact I.locG
    cellG := fun y c q => ?_
    cellInj := I.cellInj
    nodup := by rw [hset.names]; exact I.nodup
    vals := ⟨m, ρ, hn, fun y d hy => ?_, fun y z ys zs hy hz hyz => ?_⟩ }⟩
  · by_cases hb : b = a
    · subst hb; rw [Gh.add_self] at q; cases q; exact ho
    · rw [hother b hb] at q; exact I.wf.sub b o q
  · rw [hother b (ne_of_get q h0.1)]; exact I.grow.old b o q
  · by_cases hb : b = a
    · subst hb; rw [Gh.add_self] at q; cases q; exact ho
    · rw [hother b hb] at q; exact I.wf.sub b o q
  · rw [hother b (fun h => by rw [h, h0.2] at q; cases q)]; exact I.protN b o q
  · obtain ⟨q1, v, q2⟩ := I.cellG y c q
    refine ⟨?_, v, q2⟩
    rw [hother c (fun h => by obtain ⟨o, q3, q4⟩ := q2; rw [h, ho] at q3; cases q3; cases q4)]; exact q1
  · rcases hmem y d hy with ⟨rfl, rfl⟩ | ⟨hy', hne⟩
    · refine ⟨fun _ => h1 (by intro q; cases q), ?_⟩
      rw [e]; exact .list (Gh.add_self _ _ _) (hr.mono hle)
    · refine ⟨(hv y d hy').1, ?_⟩
      have hb := (hv y d hy').2
      cases d with
      | mlist ys =>
        have hd := hm y x ys xs hy' hx hne
        obtain ⟨b, ws, j, e2, h02, hg2, ho2, hr2⟩ := hb
        exact ⟨b, ws, j, e2, h02, by rw [hother b (fun q => hd (by rw [e2, e, q]))]; exact hg2, ho2, hr2.mono hle⟩
      | unset => trivial
      | _ => exact Rd.mono hle hb
  · have old : ∀ y ys, (y, D.mlist ys) ∈ σ' → (y, D.mlist ys) ∈ σ := fun y ys hy => by
      rcases hmem _ _ hy with ⟨_, q⟩ | ⟨h, _⟩
      · cases q
      · exact h
    exact hm y z ys zs (old y ys hy) (old z zs hz) hyz
theorem ExL.freeze {b : List Stmt} {oc : Oc} {x : Str} {xs : List D} (hx : (x, D.mlist xs) ∈ σ) (hset : Set1 x (.list xs) σ σ') (hb : ExL prog w h₁ n sc σ' b oc) : ExL prog w h₁ n sc σ b oc := fun A E env F s g rm hsc ow I => by
  obtain ⟨g', I'⟩ := I.freeze hx hset
  exact hb A E env F s g' rm hsc ow I'
end
end Mine
end

-- part MStr
section

open PySem PySem.W PyProof.Rows
set_option linter.unusedVariables false
set_option maxRecDepth 100000
namespace Mine

/-- a text by its signs' numbers -/
noncomputable def S (l : List Nat) : Str := ⟨l.toArray⟩
theorem S_inj {a b : List Nat} : S a = S b ↔ a = b := by
  constructor
  · intro h; have := congrArg (fun x : Str => x.cps.toList) h; simpa [S] using this
  · intro h; rw [h]
theorem S_append (a b : List Nat) : S a ++ S b = S (a ++ b) := by
  show Str.append (S a) (S b) = _
  simp [Str.append, S]
theorem S_length (a : List Nat) : (S a).length = a.length := by simp [S, Str.length]
theorem S_toList (a : List Nat) : (S a).cps.toList = a := by simp [S]
noncomputable def inter (sep : List Nat) : List (List Nat) → List Nat
  | [] => []
  | [x] => x
  | x :: y :: r => x ++ sep ++ inter sep (y :: r)
theorem join_S (sep : List Nat) : ∀ ls : List (List Nat), Str.join (S sep) (ls.map S) = S (inter sep ls)
  | [] => rfl
  | [x] => rfl
  | x :: y :: r => by
    have ih := join_S sep (y :: r)
    show S x ++ S sep ++ Str.join (S sep) ((y :: r).map S) = _
    rw [ih, S_append, S_append]; rfl
theorem inter_nil : ∀ ls : List (List Nat), inter [] ls = ls.flatten
  | [] => rfl
  | [x] => by simp [inter]
  | x :: y :: r => by
    have ih := inter_nil (y :: r)
    rw [inter, ih]; simp

section
variable {prog : Program} {w : World} {h₁ : Heap} {n : Nat} {sc : Scope} {σ σ' : List (Str × D)}
theorem strsAre_values : ∀ {vs : List Value} {ss : List Str}, StrsAre vs ss → ∃ l : List (Str × Tok), vs = strValues l ∧ l.map (·.1) = ss
  | _, _, .nil => ⟨[], rfl, rfl⟩
  | _, _, .cons y t h => by
    obtain ⟨l, h1, h2⟩ := strsAre_values h
    exact ⟨(y, t) :: l, by rw [h1]; rfl, by rw [List.map_cons, h2]⟩
theorem sum_len_S : ∀ ls : List (List Nat), ((ls.map S).map (·.length)).sum = (ls.map List.length).sum
  | [] => rfl
  | x :: r => by simp only [List.map_cons, List.sum_cons, S_length, sum_len_S r]
theorem CallE.join {sep : List Nat} {ls : List (List Nat)} (hz : (ls.map List.length).sum + ls.length * sep.length ≤ 1000000) : CallE prog w h₁ n (.builtin "str.join") [.str (S sep), .list (sL (ls.map S))] (.str (S (inter sep ls))) := fun A E s g vs rm W r => by
  cases r with | cons r1 r2 =>
  cases r2 with | cons r2 r3 =>
  cases r3
  cases r1
  cases r2 with | list ha ra =>
  obtain ⟨l, e1, e2⟩ := strsAre_values ra.strsAre
  subst e1
  refine SC.join (texts := ls.map S) ⟨_, W.sub _ _ ha, rfl, _, rfl⟩ e2 (joinOk_of ?_) fun t' k => ⟨g, Grow.toks W.sub _, ?_⟩
  · rw [sum_len_S, List.length_map, S_length]; omega
  · have : Txt.join (S sep) (ls.map S) = S (inter sep ls) := by
      have h := join_plain_closes (S sep) (ls.map S)
      rw [eq_of_beq h, join_S]
    rw [this]; exact .str _ _
end

noncomputable def noD : Stmt := .Pass default
noncomputable abbrev pg : Program := PySem.Challenge.pw_ph0060_01
noncomputable def stm (i : Nat) : Stmt := pg.main.body.getD i noD
noncomputable def fBody : Stmt → List Stmt
  | .FunctionDef _ _ b _ _ _ _ _ _ _ => b
  | _ => []
noncomputable def fScope : Stmt → Scope
  | .FunctionDef _ _ _ _ _ _ s _ _ _ => s
  | _ => default
noncomputable def fParams : Stmt → Arguments
  | .FunctionDef _ a _ _ _ _ _ _ _ _ => a
  | _ => default
noncomputable def fName : Stmt → Str
  | .FunctionDef n _ _ _ _ _ _ _ _ _ => n
  | _ => Str.empty

/-- the def i of the text stands at a -/
structure FnAt (h₁ : Heap) (mg : Str → Option Value) (i : Nat) (a : Addr) : Prop where
  glob : mg (fName (stm i)) = some (.ref a)
  obj : ∃ o pm cd doc, h₁.get? a = some o ∧ o.data = .func (Calls.docDef (fName (stm i)) (fParams (stm i)) (fBody (stm i)) (fScope (stm i)) pm cd doc) ∧ h₁.CodeRec cd (fName (stm i))

end Mine
end

-- part MTac
section

open PySem PySem.W PyProof.Rows
set_option linter.unusedVariables false
set_option maxRecDepth 100000
namespace Mine

inductive Look (x : Str) : List (Str × D) → D → Prop
  | here {d : D} {r : List (Str × D)} : Look x ((x, d) :: r) d
  | there {p : Str × D} {r : List (Str × D)} {d : D} : Look x r d → Look x (p :: r) d
theorem Look.mem {x : Str} {σ : List (Str × D)} {d : D} (h : Look x σ d) : (x, d) ∈ σ := by
  induction h with
  | here => exact List.Mem.head _
  | there _ ih => exact List.Mem.tail _ ih
noncomputable def D.ok : D → Bool
  | .mlist _ => false
  | .unset => false
  | _ => true
noncomputable def dbg (x : Str) : Bool := (x == ("__debug__" : Str)) || (x == ("__classdict__" : Str))

section
variable {prog : Program} {w : World} {h₁ : Heap} {mg mb : Str → Option Value} {n : Nat} {sc : Scope} {σ σ' : List (Str × D)}
theorem EvE.nm {x : Str} {pos : Pos} {d : D} (h : Look x σ d) (hk : d.ok = true) (hd : dbg x = false) : EvE prog w h₁ n sc σ (.Name x pos) d :=
  EvE.name h.mem (by intro xs q; subst q; cases hk) (by intro q; subst q; cases hk) hd
theorem EvE.c_empty {k : Nat} {pos : Pos} : EvE prog w h₁ n sc σ (.Constant (.str (Str.ofString "")) k pos) (.str (S [])) := by
  rw [show S [] = Str.ofString "" from by decide +kernel]; exact EvE.const_str
theorem EvE.c_dots {k : Nat} {pos : Pos} : EvE prog w h₁ n sc σ (.Constant (.str (Str.ofString "...")) k pos) (.str (S [46, 46, 46])) := by
  rw [show S [46, 46, 46] = Str.ofString "..." from by decide +kernel]; exact EvE.const_str
theorem EvE.c_quote {k : Nat} {pos : Pos} : EvE prog w h₁ n sc σ (.Constant (.str (Str.ofString "\"")) k pos) (.str (S [34])) := by
  rw [show S [34] = Str.ofString "\"" from by decide +kernel]; exact EvE.const_str
theorem EvE.c_bs {k : Nat} {pos : Pos} : EvE prog w h₁ n sc σ (.Constant (.str (Str.ofString "\\")) k pos) (.str (S [92])) := by
  rw [show S [92] = Str.ofString "\\" from by decide +kernel]; exact EvE.const_str
theorem OpE.add_S {a b : List Nat} (hz : a.length + b.length ≤ 1000000) : OpE prog w h₁ .Add (.str (S a)) (.str (S b)) (.str (S (a ++ b))) := by
  rw [← S_append]; exact OpE.add_str (by rw [S_length, S_length]; have : sizeLine = 16777216 := rfl; omega)
theorem EvE.cast {e : Expr} {d d' : D} (h : EvE prog w h₁ n sc σ e d) (hd : d = d') : EvE prog w h₁ n sc σ e d' := hd ▸ h
theorem EvB.cast {e : Expr} {d d' : Bool} (h : EvB prog w h₁ n sc σ e d) (hd : d = d') : EvB prog w h₁ n sc σ e d' := hd ▸ h
theorem EvL.cons' {e : Expr} {es : List Expr} {d : D} {ds : List D} (h : EvE prog w h₁ n sc σ e d) (hs : EvL prog w h₁ n sc σ es ds)
    (he : ∀ env, starEach (e :: es) env = (false, eval e env) :: starEach es env) : EvL prog w h₁ n sc σ (e :: es) (d :: ds) := EvL.cons h hs he
theorem EvE.list' {es : List Expr} {ds : List D} {pos : Pos} (h : EvL prog w h₁ n sc σ es ds) (hz : ds.length ≤ 1000) : EvE prog w h₁ n sc σ (.List es pos) (.list ds) := EvE.list h hz
theorem EvE.tuple' {es : List Expr} {ds : List D} {k : Nat} {pos : Pos} (h : EvL prog w h₁ n sc σ es ds) (hz : ds.length ≤ 1000) : EvE prog w h₁ n sc σ (.Tuple es k pos) (.tuple ds) := EvE.tuple h hz
/-- a slice of a list of texts -/
theorem EvE.cutL {value : Expr} {lo hi : Option Expr} {p pos : Pos} {ss : List Str} {a b : Option Int} (hv : EvE prog w h₁ n sc σ value (.list (sL ss))) (hlo : EvP prog w h₁ n sc σ lo a) (hhi : EvP prog w h₁ n sc σ hi b)
    (hz : ss.length ≤ 1000) : EvE prog w h₁ n sc σ (.Subscript value (.Slice lo hi none p) pos) (.list (sL (cut ss a b))) := by
  have := EvE.slice_list (p := p) (pos := pos) hv hlo hhi (by rw [List.length_map]; exact hz)
  rw [cut_map] at this
  exact this
theorem OpE.add_L {a b : List Str} (hz : a.length + b.length ≤ 1000) : OpE prog w h₁ .Add (.list (sL a)) (.list (sL b)) (.list (sL (a ++ b))) := by
  have := OpE.add_list (prog := prog) (w := w) (h₁ := h₁) (a := sL a) (b := sL b) (by simpa using hz)
  rw [← List.map_append] at this
  exact this
end
end Mine

namespace Mine
/-- a list of texts; a list of ints -/
noncomputable def tL (row : List (List Nat)) : D := .list (sL (row.map S))
noncomputable def iL (ns : List Int) : D := .list (ns.map .int)
noncomputable def tx (l : List Nat) : D := .str (S l)

section
variable {prog : Program} {w : World} {h₁ : Heap} {mg mb : Str → Option Value} {n : Nat} {sc : Scope} {σ σ' : List (Str × D)}
theorem cut_length {α : Type} (xs : List α) (a b : Option Int) : (cut xs a b).length ≤ xs.length := by
  simp only [cut, List.length_take, List.length_drop]; omega

theorem EvE.cutT {value : Expr} {lo hi : Option Expr} {p pos : Pos} {row : List (List Nat)} {a b : Option Int} (hv : EvE prog w h₁ n sc σ value (tL row)) (hlo : EvP prog w h₁ n sc σ lo a) (hhi : EvP prog w h₁ n sc σ hi b)
    (hz : row.length ≤ 1000) : EvE prog w h₁ n sc σ (.Subscript value (.Slice lo hi none p) pos) (tL (cut row a b)) := by
  have := EvE.cutL (p := p) (pos := pos) hv hlo hhi (by rw [List.length_map]; exact hz)
  rw [cut_map] at this
  exact this
theorem EvE.cutI {value : Expr} {lo hi : Option Expr} {p pos : Pos} {ns : List Int} {a b : Option Int} (hv : EvE prog w h₁ n sc σ value (iL ns)) (hlo : EvP prog w h₁ n sc σ lo a) (hhi : EvP prog w h₁ n sc σ hi b)
    (hz : ns.length ≤ 1000) : EvE prog w h₁ n sc σ (.Subscript value (.Slice lo hi none p) pos) (iL (cut ns a b)) := by
  have := EvE.slice_list (p := p) (pos := pos) hv hlo hhi (by rw [List.length_map]; exact hz)
  rw [cut_map] at this
  exact this
theorem OpE.add_T {a b : List (List Nat)} (hz : a.length + b.length ≤ 1000) : OpE prog w h₁ .Add (tL a) (tL b) (tL (a ++ b)) := by
  have := OpE.add_L (prog := prog) (w := w) (h₁ := h₁) (a := a.map S) (b := b.map S) (by simpa using hz)
  rw [← List.map_append] at this
  exact this
theorem OpE.add_I {a b : List Int} (hz : a.length + b.length ≤ 1000) : OpE prog w h₁ .Add (iL a) (iL b) (iL (a ++ b)) := by
  have := OpE.add_list (prog := prog) (w := w) (h₁ := h₁) (a := a.map D.int) (b := b.map D.int) (by simpa using hz)
  rw [← List.map_append] at this
  exact this
theorem OpE.add_t {a b : List Nat} (hz : a.length + b.length ≤ 1000000) : OpE prog w h₁ .Add (tx a) (tx b) (tx (a ++ b)) := OpE.add_S hz
theorem map_S_inj {a b : List (List Nat)} : a.map S = b.map S ↔ a = b := by
  constructor
  · intro h
    induction a generalizing b with
    | nil => cases b with
      | nil => rfl
      | cons y b => simp at h
    | cons x a ih => cases b with
      | nil => simp at h
      | cons y b => simp only [List.map_cons, List.cons.injEq, S_inj] at h; rw [h.1, ih h.2]
  · intro h; rw [h]
theorem CmpE.eq_T {a b : List (List Nat)} : CmpE prog w h₁ .Eq (tL a) (tL b) (decide (a = b)) := by
  have := CmpE.eq_strs (prog := prog) (w := w) (h₁ := h₁) (xs := a.map S) (ys := b.map S)
  rw [show decide (a.map S = b.map S) = decide (a = b) from decide_eq_decide.mpr map_S_inj] at this
  exact this
theorem CmpE.ne_T {a b : List (List Nat)} : CmpE prog w h₁ .NotEq (tL a) (tL b) (decide (a ≠ b)) := by
  have := CmpE.ne_strs (prog := prog) (w := w) (h₁ := h₁) (xs := a.map S) (ys := b.map S)
  rw [show decide (a.map S ≠ b.map S) = decide (a ≠ b) from decide_eq_decide.mpr (not_congr map_S_inj)] at this
  exact this
theorem CmpE.eq_t {a b : List Nat} : CmpE prog w h₁ .Eq (tx a) (tx b) (decide (a = b)) := by
  have := CmpE.eq_str (prog := prog) (w := w) (h₁ := h₁) (a := S a) (b := S b)
  rw [show decide (S a = S b) = decide (a = b) from decide_eq_decide.mpr S_inj] at this
  exact this
theorem CmpE.ne_t {a b : List Nat} : CmpE prog w h₁ .NotEq (tx a) (tx b) (decide (a ≠ b)) := by
  have := CmpE.ne_str (prog := prog) (w := w) (h₁ := h₁) (a := S a) (b := S b)
  rw [show decide (S a ≠ S b) = decide (a ≠ b) from decide_eq_decide.mpr (not_congr S_inj)] at this
  exact this
theorem CmpE.in_T {a : List Nat} {row : List (List Nat)} : CmpE prog w h₁ .In (tx a) (tL row) (decide (a ∈ row)) := by
  have := CmpE.in_strs (prog := prog) (w := w) (h₁ := h₁) (a := S a) (ss := row.map S)
  have e : S a ∈ row.map S ↔ a ∈ row := by
    constructor
    · intro h; obtain ⟨y, hy, e⟩ := List.mem_map.mp h; rw [S_inj] at e; subst e; exact hy
    · exact List.mem_map_of_mem
  rw [show decide (S a ∈ row.map S) = decide (a ∈ row) from decide_eq_decide.mpr e] at this
  exact this
theorem GetE.T {row : List (List Nat)} {i : Int} {l : List Nat} (h0 : 0 ≤ i) (hz : i < 2 ^ 63) (hx : row[i.toNat]? = some l) : GetE prog w h₁ (tL row) (.int i) (tx l) :=
  GetE.list h0 hz (by rw [List.getElem?_map, List.getElem?_map, hx]; rfl)
theorem GetE.Tneg {row : List (List Nat)} {i : Int} {l : List Nat} (h0 : i < 0) (h1 : -(row.length : Int) ≤ i) (hz : -(2 ^ 63) ≤ i) (hx : row[(i + row.length).toNat]? = some l) : GetE prog w h₁ (tL row) (.int i) (tx l) :=
  GetE.listNeg h0 (by simpa using h1) hz (by rw [List.length_map, List.length_map, List.getElem?_map, List.getElem?_map, hx]; rfl)
theorem GetE.I {ns : List Int} {i k : Int} (h0 : 0 ≤ i) (hz : i < 2 ^ 63) (hx : ns[i.toNat]? = some k) : GetE prog w h₁ (iL ns) (.int i) (.int k) :=
  GetE.list h0 hz (by rw [List.getElem?_map, hx]; rfl)
theorem GetE.Ineg {ns : List Int} {i k : Int} (h0 : i < 0) (h1 : -(ns.length : Int) ≤ i) (hz : -(2 ^ 63) ≤ i) (hx : ns[(i + ns.length).toNat]? = some k) : GetE prog w h₁ (iL ns) (.int i) (.int k) :=
  GetE.listNeg h0 (by simpa using h1) hz (by rw [List.length_map, List.getElem?_map, hx]; rfl)
theorem CallE.len_T {row : List (List Nat)} (hz : row.length ≤ 1000) : CallE prog w h₁ n (.builtin "len") [tL row] (.int row.length) := by
  have := CallE.len_list (prog := prog) (w := w) (h₁ := h₁) (n := n) (ds := sL (row.map S)) (by simpa using hz)
  rw [List.length_map, List.length_map] at this
  exact this
theorem CallE.len_t {l : List Nat} (hz : l.length ≤ 1000) : CallE prog w h₁ n (.builtin "len") [tx l] (.int l.length) := by
  have := CallE.len_str (prog := prog) (w := w) (h₁ := h₁) (n := n) (x := S l) (by rw [S_length]; exact hz)
  rw [S_length] at this; exact this
theorem CallE.join_T {sep : List Nat} {ls : List (List Nat)} (hz : (ls.map List.length).sum + ls.length * sep.length ≤ 1000000) : CallE prog w h₁ n (.builtin "str.join") [tx sep, tL ls] (tx (inter sep ls)) := CallE.join hz
theorem CallE.rangeI {k : Int} (h : 0 ≤ k) : CallE prog w h₁ n (.type "range") [.int k] (.rng k.toNat) := by
  obtain ⟨m, rfl⟩ := Int.eq_ofNat_of_zero_le h
  exact CallE.range
theorem IterE.T {row : List (List Nat)} : IterE prog w h₁ (tL row) (row.map tx) := by
  have e : (sL (row.map S)) = row.map tx := by simp [tx, Function.comp_def]
  unfold tL
  rw [e]
  exact IterE.list
theorem EvE.disp1 {e : Expr} {pos : Pos} {l : List Nat} (h : EvE prog w h₁ n sc σ e (tx l)) (he : ∀ env, starEach [e] env = [(false, eval e env)]) : EvE prog w h₁ n sc σ (.List [e] pos) (tL [l]) :=
  EvE.list (EvL.cons h EvL.nil he) (by simp)
theorem EvE.disp0 {pos : Pos} : EvE prog w h₁ n sc σ (.List [] pos) (tL []) := EvE.list EvL.nil (by decide)
theorem MethE.join_t {l : List Nat} : MethE h₁ (tx l) (Str.ofString "join") "str.join" := MethE.join
theorem MethE.startswith_t {l : List Nat} : MethE h₁ (tx l) (Str.ofString "startswith") "str.startswith" := MethE.startswith
theorem MethE.endswith_t {l : List Nat} : MethE h₁ (tx l) (Str.ofString "endswith") "str.endswith" := MethE.endswith
theorem MethE.find_t {l : List Nat} : MethE h₁ (tx l) (Str.ofString "find") "str.find" := MethE.find
theorem EvE.k_empty {k : Nat} {pos : Pos} : EvE prog w h₁ n sc σ (.Constant (.str (Str.ofString "")) k pos) (tx []) := EvE.c_empty
theorem EvE.k_dots {k : Nat} {pos : Pos} : EvE prog w h₁ n sc σ (.Constant (.str (Str.ofString "...")) k pos) (tx [46, 46, 46]) := EvE.c_dots
theorem EvE.k_quote {k : Nat} {pos : Pos} : EvE prog w h₁ n sc σ (.Constant (.str (Str.ofString "\"")) k pos) (tx [34]) := EvE.c_quote
theorem EvE.k_bs {k : Nat} {pos : Pos} : EvE prog w h₁ n sc σ (.Constant (.str (Str.ofString "\\")) k pos) (tx [92]) := EvE.c_bs

/-- a call of a def of the text, by its number -/
theorem EvE.call_def (B : Bs h₁ mg mb) {i : Nat} {a : Addr} (hf : FnAt h₁ mg i a) {f : Str} {fp pos : Pos} {e : Expr} {es : List Expr} {ds : List D} {d : D} (hn : fName (stm i) = f) (hk : sc.names.lookup f = some .globalImplicit) (hd : dbg f = false)
    (he : ∀ env, starEach (e :: es) env = (false, eval e env) :: starEach es env)
    (ha : EvL prog w h₁ n sc σ (e :: es) ds) (hc : CallE prog w h₁ n (.ref a) ds d) : EvE prog w h₁ n sc σ (.Call (.Name f fp) (e :: es) [] pos) d := by
  obtain ⟨o, pm, cd, doc, ho, hd', _⟩ := hf.obj
  exact EvE.call_fn B hk (.inl (hn ▸ hf.glob)) ho hd' ha hc (Bool.or_eq_false_iff.mp hd).1 he
theorem EvE.call_b (B : Bs h₁ mg mb) {f : Str} {fp pos : Pos} {e : Expr} {es : List Expr} {id : String} {ds : List D} {d : D} (hg : Glob mg mb f (.builtin id)) (hk : sc.names.lookup f = some .globalImplicit) (hd : dbg f = false)
    (he : ∀ env, starEach (e :: es) env = (false, eval e env) :: starEach es env) (hst : ∀ env, (starEach (e :: es) env).any (·.1) = false)
    (ha : EvL prog w h₁ n sc σ (e :: es) ds) (hc : CallE prog w h₁ n (.builtin id) ds d) : EvE prog w h₁ n sc σ (.Call (.Name f fp) (e :: es) [] pos) d :=
  EvE.call_builtin B hk hg ha hc (Bool.or_eq_false_iff.mp hd).1 he hst
theorem EvE.call_t (B : Bs h₁ mg mb) {f : Str} {fp pos : Pos} {e : Expr} {es : List Expr} {id : String} {ds : List D} {d : D} (hg : Glob mg mb f (.type id)) (hk : sc.names.lookup f = some .globalImplicit) (hd : dbg f = false)
    (he : ∀ env, starEach (e :: es) env = (false, eval e env) :: starEach es env) (hst : ∀ env, (starEach (e :: es) env).any (·.1) = false)
    (ha : EvL prog w h₁ n sc σ (e :: es) ds) (hc : CallE prog w h₁ n (.type id) ds d) : EvE prog w h₁ n sc σ (.Call (.Name f fp) (e :: es) [] pos) d :=
  EvE.call_type B hk hg ha hc (Bool.or_eq_false_iff.mp hd).1 he hst
theorem EvE.mt {o e : Expr} {es : List Expr} {name : Str} {apos pos : Pos} {d₀ d : D} {ds : List D} {id : String} (ho : EvE prog w h₁ n sc σ o d₀) (ha : EvL prog w h₁ n sc σ (e :: es) ds)
    (hm : MethE h₁ d₀ name id) (hc : CallE prog w h₁ n (.builtin id) (d₀ :: ds) d)
    (hb : ∀ env whole, attributeBase o name env whole = whole) (hp : ∀ env, methodCallPos true o env apos pos = pure pos)
    (he : ∀ env, starEach (e :: es) env = (false, eval e env) :: starEach es env) (hst : ∀ env, (starEach (e :: es) env).any (·.1) = false)
    (hn : ∀ env, methodCallForm ((e :: es).length + 0) (backTo pos (starEach (e :: es) env)) [] = true) :
    EvE prog w h₁ n sc σ (.Call (.Attribute o name apos) (e :: es) [] pos) d := EvE.meth ho ha hm hc hb hp he hst hn
theorem EvE.sub' {value slice : Expr} {pos : Pos} {d₁ d₂ d : D} (hs : ∀ o i, subscripted slice false o i = operate [o, i] (getItem o i)) (hv : EvE prog w h₁ n sc σ value d₁) (hi : EvE prog w h₁ n sc σ slice d₂) (hg : GetE prog w h₁ d₁ d₂ d) : EvE prog w h₁ n sc σ (.Subscript value slice pos) d := EvE.sub hv hi hg hs
theorem EvE.cmp' {l r : Expr} {op : CmpOp} {pos : Pos} {d₁ d₂ : D} {b : Bool} (hm : behindInMarks op r = false) (hl : EvE prog w h₁ n sc σ l d₁) (hr : EvE prog w h₁ n sc σ r d₂) (ho : CmpE prog w h₁ op d₁ d₂ b) : EvE prog w h₁ n sc σ (.Compare l [op] [r] pos) (.bool b) := EvE.cmp hl hr ho hm
theorem EvB.cmp' {l r : Expr} {op : CmpOp} {pos : Pos} {d₁ d₂ : D} {b : Bool} (hm : behindInMarks op r = false) (hl : EvE prog w h₁ n sc σ l d₁) (hr : EvE prog w h₁ n sc σ r d₂) (ho : CmpE prog w h₁ op d₁ d₂ b) : EvB prog w h₁ n sc σ (.Compare l [op] [r] pos) b := EvB.cmp hl hr ho hm
theorem sL_tx (row : List (List Nat)) : sL (row.map S) = row.map tx := by simp [tx, Function.comp_def]
/-- a comprehension whose list is one of texts -/
theorem EvE.compT {elt iter target : Expr} {ifs : List Expr} {rest : List Comprehension} {scope : Scope} {pos : Pos} {σc : List (Str × D)} {d : D} {ds out : List D} {res : List (List Nat)}
    (hs : ∀ env x, foldedSetIterable iter env x = pure x)
    (hi : EvE prog w h₁ n sc σ iter d) (hit : IterE prog w h₁ d ds) (cp : Caps scope sc σ σc)
    (hl : LoopE prog w h₁ n (relabelS scope sc) σc (.ListComp elt (⟨target, iter, ifs, 0⟩ :: rest) scope pos) 0 ds out) (hz : out.length ≤ 1000) (ho : out = res.map tx) :
    EvE prog w h₁ n sc σ (.ListComp elt (⟨target, iter, ifs, 0⟩ :: rest) scope pos) (tL res) := by
  have := EvE.comp hi hit cp hl hz hs
  rw [ho, ← sL_tx] at this
  exact this
theorem flatMap_one {α β : Type} (f : α → β) : ∀ l : List α, l.flatMap (fun x => [f x]) = l.map f
  | [] => rfl
  | x :: r => by rw [List.flatMap_cons, flatMap_one f r]; rfl
theorem ok_unset {d : D} (h : d.ok = true) : d ≠ .unset := by intro q; subst q; cases h
/-- the names that a comprehension reads: kept is what its frame has of them -/
theorem caps_of {scope sc : Scope} {σ σt σk : List (Str × D)} {fr : List Str} (hfr : freeOf scope = fr) (free : ∀ y ∈ fr, sc.names.lookup y = some .cell ∧ ∃ d, Look y σ d ∧ d.ok = true)
    (ht : ∀ p ∈ σt, p.2 = .unset) (caps : ∀ p ∈ σk, Look p.1 σ p.2 ∧ p.2.ok = true ∧ (fr.contains p.1 && ((relabelS scope sc).names.lookup p.1 == some .cell)) = true)
    (nodup : ((σt ++ σk).map (·.1)).Nodup) (nocell : (scope.names.all (fun x => x.2 != .cell) && (scope.kind == .function) && scope.names.all (fun x => x.2 != .local || scope.names.lookup x.1 == some .local)) = true) : Caps scope sc σ (σt ++ σk) := by
  subst hfr
  obtain ⟨hk, hl⟩ := Bool.and_eq_true_iff.mp nocell
  obtain ⟨hc, hk⟩ := Bool.and_eq_true_iff.mp hk
  refine ⟨fun y hy => let ⟨a, d, b, c⟩ := free y hy; ⟨a, d, b.mem, ok_unset c⟩, fun p hp => ?_, nodup, fun x hx => by simpa using List.all_eq_true.mp hc x hx, by simpa using hk, fun x hx hxl => ?_, fun x xs hx => ?_⟩
  · rcases List.mem_append.mp hp with h | h
    · exact .inl (ht p h)
    · obtain ⟨a, b, c⟩ := caps p h
      obtain ⟨c1, c2⟩ := Bool.and_eq_true_iff.mp c
      exact .inr ⟨a.mem, by simpa using c1, by simpa using c2⟩
  · have := List.all_eq_true.mp hl x hx
    rw [hxl] at this
    simpa using this
  · rcases List.mem_append.mp hx with h | h
    · have := ht _ h; cases this
    · have := (caps _ h).2.1; cases this
end
end Mine
end

-- part MStr2
section

open PySem PySem.W PyProof.Rows
set_option linter.unusedVariables false
set_option maxRecDepth 100000
namespace Mine
open Builtin Builtin.Str

/-- y stands in x at i, within hi -/
noncomputable abbrev AtL (x y : List Nat) (hi i : Nat) : Prop := i + y.length ≤ hi ∧ (x.drop i).take y.length = y
theorem at_iff (x y : List Nat) (hi i : Nat) : StrLaws.At (S x) (S y) hi i ↔ AtL x y hi i := by
  unfold StrLaws.At AtL
  rw [S_length, StrLaws.subAt_eq, S_toList, S_toList, S_length]
  simp
/-- the first place from lo on -/
noncomputable def findF (x y : List Nat) (lo hi : Nat) : Option Nat := (List.range' lo (hi + 1 - lo)).find? fun i => decide (AtL x y hi i)

theorem head_of_fst {arr : Array Nat} {a : Nat} (h : arr[0]? = some a) : ∃ r, arr.toList = a :: r := by
  rw [← Array.getElem?_toList] at h
  cases e : arr.toList with
  | nil => rw [e] at h; cases h
  | cons b r => rw [e] at h; simp at h; exact ⟨r, by rw [h]⟩

theorem occ_find (x y : List Nat) (lo hi : Nat) : (match occurrences (S x) (S y) lo hi 1 with | k :: _ => (k : Int) | [] => -1) = (match findF x y lo hi with | some i => (i : Int) | none => -1) := by
  rw [StrLaws.occ_eq]
  have hmem : ∀ i ∈ List.range' lo (hi + 1 - lo), lo ≤ i := fun i hi' => (List.mem_range'_1.mp hi').1
  rcases StrLaws.occ_first (S x) (S y) hi 1 (Nat.le_refl _) (List.range' lo (hi + 1 - lo)) lo hmem with ⟨h0, hn⟩ | ⟨pre, a, post, e, h0, ha, hn⟩
  · rw [h0]
    have : findF x y lo hi = none := by
      unfold findF
      rw [List.find?_eq_none]
      intro i hi'
      simpa [at_iff] using hn i hi'
    rw [this]
  · have hfind : findF x y lo hi = some a := by
      unfold findF
      rw [e, List.find?_append, List.find?_eq_none.mpr (fun i hi' => by simpa [at_iff] using hn i hi')]
      rw [at_iff] at ha
      simp [ha]
    obtain ⟨r, hr⟩ := head_of_fst h0
    rw [hr, hfind]

theorem gives_find4 (x y : Str) (i j : Nat) (t u v z : Tok) (hj : j ≤ x.length) : Gives («str.find» ⟨[.str x t, .str y u, .int i v, .int j z], []⟩) (.int (match occurrences x y i j 1 with | k :: _ => (k : Int) | [] => -1)) := by
  show Gives (match occurrences x y (fromIndex x.length i) (min (fromIndex x.length j) x.length) 1 with | k :: _ => retInt k | [] => (do rule "str.find.not-found"; retInt (-1))) _
  have e1 : ∀ k : Nat, fromIndex x.length (k : Int) = k := fun k => by unfold fromIndex; rw [if_neg (by omega)]; omega
  rw [e1, e1, Nat.min_eq_left hj]
  cases occurrences x y i j 1 with
  | nil => exact .rule (.of_eq rfl)
  | cons a r => exact .of_eq rfl

section
variable {prog : Program} {w : World} {h₁ : Heap} {mg mb : Str → Option Value} {n : Nat} {sc : Scope} {σ σ' : List (Str × D)}

theorem CallE.find {x y : List Nat} {i j : Nat} (hj : j ≤ x.length) : CallE prog w h₁ n (.builtin "str.find") [tx x, tx y, .int i, .int j] (.int (match findF x y i j with | some k => (k : Int) | none => -1)) := fun A E s g vs rm W r => by
  cases r with | cons r1 r =>
  cases r with | cons r2 r =>
  cases r with | cons r3 r =>
  cases r with | cons r4 r =>
  cases r
  cases r1; cases r2; cases r3; cases r4
  refine call_gives F.slot_str_find (typeIs_str _ _ _) F.entry_str_find (F.args_str_find_4 _ _ _ _) (gives_find4 (S x) (S y) i j _ _ _ _ (by rw [S_length]; exact hj)) ?_
  rw [occ_find]
  exact ⟨g, Grow.toks W.sub _, .int _ _⟩

theorem starts_iff (x y : List Nat) : Txt.startswith (S x) (S y) = decide (y <+: x) := by
  unfold Txt.startswith
  rw [StrLaws.subAt_eq, S_length, S_length, S_toList, S_toList, List.drop_zero]
  rw [Bool.eq_iff_iff]
  simp only [Bool.and_eq_true, decide_eq_true_eq, beq_iff_eq, Nat.zero_add]
  constructor
  · rintro ⟨_, h⟩; rw [← h]; exact List.take_prefix _ _
  · intro h; exact ⟨h.length_le, (List.prefix_iff_eq_take.mp h).symm⟩
theorem ends_iff (x y : List Nat) : Txt.endswith (S x) (S y) = decide (y <:+ x) := by
  unfold Txt.endswith
  rw [StrLaws.subAt_eq, S_length, S_length, S_toList, S_toList]
  rw [Bool.eq_iff_iff]
  simp only [Bool.and_eq_true, decide_eq_true_eq, beq_iff_eq, Nat.zero_add]
  constructor
  · rintro ⟨hl, h⟩
    rw [List.take_of_length_le (by rw [List.length_drop]; omega)] at h
    rw [← h]; exact List.drop_suffix _ _
  · intro h
    refine ⟨h.length_le, ?_⟩
    rw [List.take_of_length_le (by rw [List.length_drop]; have := h.length_le; omega)]
    exact (List.suffix_iff_eq_drop.mp h).symm
theorem CallE.startswith {x y : List Nat} : CallE prog w h₁ n (.builtin "str.startswith") [tx x, tx y] (.bool (decide (y <+: x))) := fun A E s g vs rm W r => by
  cases r with | cons r1 r =>
  cases r with | cons r2 r =>
  cases r
  cases r1; cases r2
  exact SC.startswith ⟨g, Grow.refl W.sub, by rw [starts_iff]; exact .bool _⟩
theorem CallE.endswith {x y : List Nat} : CallE prog w h₁ n (.builtin "str.endswith") [tx x, tx y] (.bool (decide (y <:+ x))) := fun A E s g vs rm W r => by
  cases r with | cons r1 r =>
  cases r with | cons r2 r =>
  cases r
  cases r1; cases r2
  exact SC.endswith ⟨g, Grow.refl W.sub, by rw [ends_iff]; exact .bool _⟩
theorem TruE.t {x : List Nat} (hz : x.length ≤ 1000) : TruE prog w h₁ (tx x) (decide (x ≠ [])) := fun A E s g v rm W r => by
  cases r
  refine P.truthy_str (by rw [S_length]; omega) ⟨?_, g, Grow.toks W.sub _⟩
  rw [S_length]
  cases x
  · rfl
  · simp; omega

/-- a name that holds a growing list: its value, and the list after any growth of the heap -/
theorem Inv.mlistG {env : Env} {F : Fx} {s : Shared} {g : Gh} {x : Str} {px : Pos} {xs : List D} (I : Inv h₁ env σ F s g) (hx : (x, D.mlist xs) ∈ σ) (hd : dbg x = false) :
    ∃ a, (∀ (A : Around) (E : Value → Shared → Prop) (Q : Value → Shared → Prop), Q (.ref a) s → wpAny (model prog w) A (eval (.Name x px) env) Q E s) ∧
      ∀ s₁ g₁, Grow s g s₁ g₁ → ∃ vs k, s₁.heap.get? a = some (listO vs k) ∧ g₁ a = none ∧ RdL g₁ vs xs ∧ (∀ (vs' : List Value) (k' : Nat) (xs' : List D) (h' : Heap) (σ' : List (Str × D)),
        (∀ b o, b ≠ a → s₁.heap.get? b = some o → h'.get? b = some o) → h'.get? a = some (listO vs' k') → RdL g₁ vs' xs' → Set1 x (.mlist xs') σ σ' → Inv h₁ env σ' F { s₁ with heap := h' } g₁) := by
  have hd' := Bool.or_eq_false_iff.mp hd
  obtain ⟨m, a, vs, k, hn, hv, h0, hg, ho, hr, upd⟩ := I.mlist (σ' := σ) hx
  refine ⟨a, fun A E Q h => wpAny_Name (loadName_of I.fn hn hv h hd'.2) hd'.1, fun s₁ g₁ G₁ => ?_⟩
  have I₁ := I.grow' G₁
  refine ⟨vs, k, G₁.keep _ _ ho, (G₁.old _ _ ho).trans hg, hr.mono (G₁.le I.wf.sub), fun vs' k' xs' h' σ' hk ho' hr' hset => ?_⟩
  obtain ⟨m₁, a₁, vs₁, k₁, hn₁, hv₁, h0₁, hg₁, ho₁, hr₁, upd₁⟩ := I₁.mlist (σ' := σ') hx
  have haa : a₁ = a := by
    have hn' := hn.keeps G₁.keep
    have hmm : m₁ = m := by
      obtain ⟨o, es, ep, q1, q2, _, q4⟩ := hn₁
      obtain ⟨o', es', ep', q1', q2', _, q4'⟩ := hn'
      rw [q1] at q1'; cases q1'; rw [q2] at q2'; cases q2'
      exact funext fun y => (q4 y).symm.trans (q4' y)
    subst hmm
    rcases hv₁ with ⟨p1, p2⟩ | ⟨p1, c, p2, p3⟩ <;> rcases hv with ⟨r1, r2⟩ | ⟨r1, c', r2, r3⟩
    · rw [p2] at r2; cases r2; rfl
    · rcases r1 with r1 | r1 <;> rw [p1] at r1 <;> cases r1
    · rcases p1 with p1 | p1 <;> rw [r1] at p1 <;> cases p1
    · rw [p2] at r2; cases r2
      obtain ⟨o, q1, q2⟩ := p3
      obtain ⟨o', q1', q2'⟩ := r3.keeps G₁.keep
      rw [q1] at q1'; cases q1'; rw [q2] at q2'; cases q2'; rfl
  subst haa
  exact upd₁ a₁ vs' k' xs' h' hk ho' hr' hset

/-- an item of a growing list -/
theorem EvE.item_m {x : Str} {px pos : Pos} {slice : Expr} {xs : List D} {i : Int} {d : D} (hx : (x, D.mlist xs) ∈ σ) (hd : dbg x = false) (hi : EvE prog w h₁ n sc σ slice (.int i))
    (hix : (0 ≤ i ∧ i < 2 ^ 63 ∧ xs[i.toNat]? = some d) ∨ (i < 0 ∧ -(xs.length : Int) ≤ i ∧ -(2 ^ 63) ≤ i ∧ xs[(i + xs.length).toNat]? = some d))
    (hs : ∀ o i, subscripted slice false o i = operate [o, i] (getItem o i)) : EvE prog w h₁ n sc σ (.Subscript (.Name x px) slice pos) d := fun A E env F s g rm hsc I => by
  obtain ⟨a, hev, hgr⟩ := Inv.mlistG (prog := prog) (w := w) (px := px) I hx hd
  refine Subscript_ (hev A E _ (wpAny_mono (hi A E env F s g rm hsc I) (fun v s₁ ⟨g₁, G₁, r₁⟩ => ?_) fun _ _ x => x))
  cases r₁
  obtain ⟨vs, k, ho, hg, hr, _⟩ := hgr s₁ g₁ G₁
  have hl : s₁.heap.IsList a vs.toArray := ⟨_, ho, rfl, k, rfl⟩
  have e := hr.length
  refine tail_any hl.typeIs slot_list_getitem.lookup ?_ (hs _ _)
  rcases hix with ⟨h0, h1, h2⟩ | ⟨h0, h1, h2, h3⟩
  · obtain ⟨v, hv, hrv⟩ := hr.get h2
    exact wpAny_getItem_list hl h0 h1 (by simpa using hv) ⟨g₁, G₁, hrv⟩
  · obtain ⟨v, hv, hrv⟩ := hr.get h3
    exact wpAny_getItem_list_neg hl h0 (by simp only [List.size_toArray]; rw [e]; exact h1) h2 (by simp only [List.size_toArray, List.getElem?_toArray]; rw [e]; exact hv) ⟨g₁, G₁, hrv⟩

/-- the length of a growing list -/
theorem EvE.len_m (B : Bs h₁ mg mb) {f x : Str} {fp px pos : Pos} {xs : List D} (hg : Glob mg mb f (.builtin "len")) (hk : sc.names.lookup f = some .globalImplicit) (hf : dbg f = false) (hx : (x, D.mlist xs) ∈ σ) (hd : dbg x = false) (hz : xs.length ≤ 1000) :
    EvE prog w h₁ n sc σ (.Call (.Name f fp) [.Name x px] [] pos) (.int xs.length) := fun A E env F s g rm hs I => by
  obtain ⟨a, hev, hgr⟩ := Inv.mlistG (prog := prog) (w := w) (px := px) I hx hd
  show wpAny _ A (eval (.Name f fp) env >>= fun v => callWith pos v [] (backTo pos (starEach [.Name x px] env)) []) _ E s
  refine wpAny_bind (name_glob B I (hs ▸ hk) hg ?_ (Bool.or_eq_false_iff.mp hf).1)
  refine Calls.callWith_builtin (args_any _ _ rfl) (evalArgs_of (wpAny_items_cons (hev A E _ (wpAny_items_nil ?_))) rfl)
  obtain ⟨vs, k, ho, hg', hr, _⟩ := hgr s g (Grow.refl I.wf.sub)
  have e := hr.length
  refine PyProof.Rows.len_list ⟨_, ho, rfl, k, rfl⟩ (by simp only [List.size_toArray]; omega) ⟨g, Grow.toks I.wf.sub _, ?_⟩
  rw [List.size_toArray, e]; exact .int _ _

/-- del x[i] on a growing list -/
theorem ExS.del_m {x : Str} {px sp pos : Pos} {slice : Expr} {xs : List D} {i : Int} {k : Nat} (hx : (x, D.mlist xs) ∈ σ) (hd : dbg x = false) (hi : EvE prog w h₁ n sc σ slice (.int i))
    (hfit : Builtin.List.listFitsIndex i = true) (hk : seqIndex? i xs.length = some k) (hz : xs.length ≤ 1000) (hset : Set1 x (.mlist (xs.eraseIdx k)) σ σ') :
    ExS prog w h₁ n sc σ (.Delete [.Subscript (.Name x px) slice sp] pos) (.next σ') := fun A E env F s g rm hsc ow I => by
  obtain ⟨a, hev, hgr⟩ := Inv.mlistG (prog := prog) (w := w) (px := px) I hx hd
  show wpAny _ A (do standAt pos; deleteEach [.Subscript (.Name x px) slice sp] env; pure Flow.next) _ E s
  refine wpAny_bind (wpAny_standAt (wpAny_bind ?_))
  rw [arm_deleteEach_cons, arm_deleteEach_nil, arm_delete_Subscript]
  refine wpAny_bind (wpAny_bind (hev A E _ (wpAny_bind (wpAny_holding (wpAny_mono (hi A E env F s g rm hsc I) (fun v s₁ ⟨g₁, G₁, r₁⟩ => ?_) fun _ _ x => x)))))
  cases r₁
  obtain ⟨vs, kk, ho, hg, hr, upd⟩ := hgr s₁ g₁ G₁
  have e := hr.length
  refine wpAny_bind (wpAny_standAt (wpAny_bind (wpAny_holding ?_)))
  refine wpAny_delItem_plain (items := vs.toArray) ⟨kk, ho⟩ hfit (by rw [List.size_toArray, e]; exact hk) (fun h' hp hsame => ?_) (by simp only [List.size_toArray]; have : sizeLine = 16777216 := rfl; omega)
  obtain ⟨k', ho'⟩ := hp
  rw [show vs.toArray.eraseIdxIfInBounds k = (vs.eraseIdx k).toArray from by simp] at ho'
  have I₂ := upd (vs.eraseIdx k) k' (xs.eraseIdx k) h' σ' (fun b o hb e => hsame.extBut b o hb e) ho' (rdl_erase hr k) hset
  refine wpAny_release (wpAny_pure (wpAny_pure ⟨g₁, rfl, I₂⟩))
where
  rdl_erase : ∀ {g : Gh} {vs : List Value} {ds : List D}, RdL g vs ds → ∀ k, RdL g (vs.eraseIdx k) (ds.eraseIdx k)
    | _, _, _, .nil, k => by simpa using RdL.nil
    | _, _, _, .cons h hs, 0 => by simpa using hs
    | _, _, _, .cons h hs, k + 1 => by simpa using RdL.cons h (rdl_erase hs k)
end
end Mine
end

-- part MMut
section

open PySem PySem.W PyProof.Rows
set_option linter.unusedVariables false
set_option maxRecDepth 100000
namespace Mine
open Builtin Builtin.Str

section
variable {prog : Program} {w : World} {h₁ : Heap} {mg mb : Str → Option Value} {n : Nat} {sc : Scope} {σ σ' σ'' : List (Str × D)}

/-- a new list that nothing else holds -/
noncomputable def Fresh (s : Shared) (g' : Gh) (s' : Shared) (v : Value) (xs : List D) : Prop :=
  ∃ (a : Addr) (vs : List Value) (k : Nat), v = .ref a ∧ s.heap.get? a = none ∧ g' a = none ∧ s'.heap.get? a = some (listO vs k) ∧ RdL g' vs xs
noncomputable def EvM (prog : Program) (w : World) (h₁ : Heap) (n : Nat) (sc : Scope) (σ : List (Str × D)) (e : Expr) (xs : List D) : Prop :=
  ∀ (A : Around) (E : Value → Shared → Prop) (env : Env) (F : Fx) (s : Shared) (g : Gh), Room n A → env.scope = sc → Inv h₁ env σ F s g →
    wpAny (model prog w) A (eval e env) (fun v s' => ∃ g', Grow s g s' g' ∧ Fresh s g' s' v xs) E s
theorem none_g {s : Shared} {g : Gh} (h : ∀ a o, g a = some o → s.heap.get? a = some o) {a : Addr} (ha : s.heap.get? a = none) : g a = none := by
  cases q : g a with
  | none => rfl
  | some o => have := h a o q; rw [ha] at this; cases this
theorem EvM.nil {pos : Pos} : EvM prog w h₁ n sc σ (.List [] pos) [] := fun A E env F s g rm hs I =>
  wpAny_List (wpAny_items_nil ⟨by decide, g, Grow.kept I.wf.sub (fun _ _ e => Heap.get?_push_of_some _ e) rfl rfl, _, [], 0, rfl, get?_none_of_size (Nat.le_refl _), none_g I.wf.sub (get?_none_of_size (Nat.le_refl _)), Heap.get?_push_size _ rfl, .nil⟩)

/-- storing a new list -/
theorem Inv.store_m {A : Around} {E : Value → Shared → Prop} {env : Env} {F : Fx} {s : Shared} {g : Gh} {x : Str} {a : Addr} {vs : List Value} {k : Nat} {xs : List D} (I : Inv h₁ env σ F s g) (ow : Own env F) (hsc : env.scope = sc)
    (hset : Set1 x (.mlist xs) σ σ') (hk : KindS sc x) (ho : s.heap.get? a = some (listO vs k)) (hg : g a = none) (h0 : F.s₀.heap.get? a = none) (hK : F.K a = none) (hr : RdL g vs xs)
    (hd : ∀ y ys (b : Addr), (y, D.mlist ys) ∈ σ → y ≠ x → Bnd F g s.heap (.ref b) (.mlist ys) → ∀ m, HasVal env m s.heap y (.ref b) → s.heap.Ns env.locals m → b ≠ a) :
    wpAny (model prog w) A (storeName env x (.ref a)) (fun _ s' => Inv h₁ env σ' F s' g) E s := by
  refine I.store hset ⟨a, vs, k, rfl, ⟨h0, hK⟩, hg, ho, hr⟩ (fun y xs' ys q hy hne u hu m hm hn => ?_) (hk.ok hsc ow)
  obtain ⟨b, vs', k', e, _⟩ := id hu
  subst e
  exact fun q => hd y ys b hy hne hu m hm hn (Value.ref.inj q)

theorem fresh_other {env : Env} {F : Fx} {s s₁ : Shared} {g g₁ : Gh} {a : Addr} (I : Inv h₁ env σ F s g) (G : Grow s g s₁ g₁) (ha : s.heap.get? a = none) :
    ∀ y ys (b : Addr), (y, D.mlist ys) ∈ σ → Bnd F g₁ s₁.heap (.ref b) (.mlist ys) → ∀ m, HasVal env m s₁.heap y (.ref b) → s₁.heap.Ns env.locals m → b ≠ a := fun y ys b hy hb m hm hn q => by
  obtain ⟨m', a', vs, k, hn', hv', _, _, ho', _⟩ := I.mlist (σ' := σ) hy
  have hne : a' ≠ a := ne_of_get ho' ha
  have hmm : m = m' := by
    obtain ⟨o, es, ep, q1, q2, _, q4⟩ := hn
    obtain ⟨o', es', ep', q1', q2', _, q4'⟩ := hn'.keeps G.keep
    rw [q1] at q1'; cases q1'; rw [q2] at q2'; cases q2'
    exact funext fun y => (q4 y).symm.trans (q4' y)
  subst hmm
  have hab : a' = b := by
    rcases hv' with ⟨p1, p2⟩ | ⟨p1, c, p2, p3⟩ <;> rcases hm with ⟨r1, r2⟩ | ⟨r1, c', r2, r3⟩
    · rw [p2] at r2; cases r2; rfl
    · rcases r1 with r1 | r1 <;> rw [p1] at r1 <;> cases r1
    · rcases p1 with p1 | p1 <;> rw [r1] at p1 <;> cases p1
    · rw [p2] at r2; cases r2
      obtain ⟨o, q1, q2⟩ := p3.keeps G.keep
      obtain ⟨o', q1', q2'⟩ := r3
      rw [q1] at q1'; cases q1'; rw [q2] at q2'; cases q2'; rfl
  exact hne (hab.trans q)

theorem fresh_F {env : Env} {F : Fx} {s : Shared} {g : Gh} {a : Addr} (I : Inv h₁ env σ F s g) (ha : s.heap.get? a = none) : F.s₀.heap.get? a = none ∧ F.K a = none := by
  constructor
  · cases q : F.s₀.heap.get? a with
    | none => rfl
    | some o => have := I.grow.keep a o q; rw [ha] at this; cases this
  · cases q : F.K a with
    | none => rfl
    | some o => have := I.prot a o q; rw [ha] at this; cases this

theorem ExS.assign_m {x : Str} {px pos : Pos} {e : Expr} {xs : List D} (h : EvM prog w h₁ n sc σ e xs) (hset : Set1 x (.mlist xs) σ σ') (hk : KindS sc x)
    (hs : ∀ env, swapsWith e (some (.Name x px)) pos.line env = pure false := by intro _; rfl) : ExS prog w h₁ n sc σ (.Assign [.Name x px] e pos) (.next σ') := fun A E env F s g rm hsc ow I =>
  wpAny_Assign_Name (wpAny_mono (h A E env F s g rm hsc I) (fun v s₁ ⟨g₁, G₁, a, vs, k, e, h0, hg, ho, hr⟩ => by
    subst e
    exact wpAny_mono ((I.grow' G₁).store_m ow hsc hset hk ho hg (fresh_F I h0).1 (fresh_F I h0).2 hr fun y ys b hy _ hb m hm hn => fresh_other I G₁ h0 y ys b hy hb m hm hn) (fun _ s₂ I₂ => ⟨g₁, rfl, I₂⟩) fun _ _ x => x) fun _ _ x => x) (hs env)

theorem Inv.addr {env : Env} {F : Fx} {s : Shared} {g : Gh} {y : Str} {ys : List D} {b : Addr} {m : Str → Option Value} (I : Inv h₁ env σ F s g) (hy : (y, D.mlist ys) ∈ σ) (hm : HasVal env m s.heap y (.ref b)) (hn : s.heap.Ns env.locals m) : F.K b = none := by
  obtain ⟨m', a', vs, k, hn', hv', h0, _⟩ := I.mlist (σ' := σ) hy
  have hmm : m = m' := by
    obtain ⟨o, es, ep, q1, q2, _, q4⟩ := hn
    obtain ⟨o', es', ep', q1', q2', _, q4'⟩ := hn'
    rw [q1] at q1'; cases q1'; rw [q2] at q2'; cases q2'
    exact funext fun y => (q4 y).symm.trans (q4' y)
  subst hmm
  have hab : a' = b := by
    rcases hv' with ⟨p1, p2⟩ | ⟨p1, c, p2, p3⟩ <;> rcases hm with ⟨r1, r2⟩ | ⟨r1, c', r2, r3⟩
    · rw [p2] at r2; cases r2; rfl
    · rcases r1 with r1 | r1 <;> rw [p1] at r1 <;> cases r1
    · rcases p1 with p1 | p1 <;> rw [r1] at p1 <;> cases p1
    · rw [p2] at r2; cases r2
      obtain ⟨o, q1, q2⟩ := p3
      obtain ⟨o', q1', q2'⟩ := r3
      rw [q1] at q1'; cases q1'; rw [q2] at q2'; cases q2'; rfl
  exact hab ▸ h0.2
theorem Own.protectL {env : Env} {F : Fx} {s : Shared} {g g' : Gh} {a : Addr} {vs : List Value} {k : Nat} (ow : Own env F) (I : Inv h₁ env σ F s g) (ho : s.heap.get? a = some (listO vs k)) : Own env (F.with a (listO vs k) g') where
  new := fun x c e => ⟨(ow.new x c e).1, by
    obtain ⟨_, v, o', ho', hd'⟩ := I.cellG x c e
    have : c ≠ a := fun q => by rw [q, ho] at ho'; cases ho'; cases hd'
    simp only [Fx.with, Gh.add_other this]; exact (ow.new x c e).2⟩
  has := ow.has

/-- x, y = [], i (both local: the second stored first) -/
theorem ExS.pair_mi {x y : Str} {px py tp lp cp ep pos : Pos} {kk kc kt : Nat} {i : Int} (hno : NoM σ) (h1 : Set1 y (.int i) σ σ') (h2 : Set1 x (.mlist []) σ' σ'') (kx : KindS sc x) (ky : KindS sc y)
    (hw : ∀ env, env.scope = sc → swappedStores [.Tuple [.Name x px, .Name y py] kk tp] (.Tuple [.List [] lp, .Constant (.int i) kc cp] kt ep) env = pure (some [x, y])) :
    ExS prog w h₁ n sc σ (.Assign [.Tuple [.Name x px, .Name y py] kk tp] (.Tuple [.List [] lp, .Constant (.int i) kc cp] kt ep) pos) (.next σ'') := fun A E env F s g rm hsc ow I => by
  refine Assign_Tuple_swapped (names := [x, y]) ?_ rfl (hw env hsc)
  refine wpAny_Tuple (wpAny_items_cons (wpAny_List (wpAny_items_nil ⟨by decide, wpAny_items_cons (wpAny_Constant_int (wpAny_items_nil ⟨show 2 ≤ sizeLine by decide, ?_⟩))⟩)))
  let hp := s.heap.push { cls := .type "list", data := .seq ([] : List Value).toArray }
  let t := { cls := Value.type "tuple", data := Data.seq [Value.ref s.heap.objs.size, Value.int i s.toks].toArray : Obj }
  have hlist : (hp.push t).get? s.heap.objs.size = some (listO [] 0) := Heap.get?_push_of_some _ (Heap.get?_push_size _ rfl)
  have hnone : s.heap.get? s.heap.objs.size = none := get?_none_of_size (Nat.le_refl _)
  have hgn : g s.heap.objs.size = none := none_g I.wf.sub hnone
  have G₁ : Grow s g { s with heap := hp.push t, toks := s.toks + 1 } g := Grow.kept I.wf.sub (fun _ _ e => Heap.get?_push_of_some _ (Heap.get?_push_of_some _ e)) rfl rfl
  have I₁ := I.grow' G₁
  refine unpackItems_tuple (s := { s with heap := hp.push t, toks := s.toks + 1 }) rm.handled (items := #[Value.ref s.heap.objs.size, Value.int i s.toks]) ⟨_, Heap.get?_push_size _ rfl, rfl, 0, rfl⟩ fun h' he => ?_
  have G₂ := KeptBy.inv I₁ he
  have I₂ := I₁.grow' G₂
  have hl2 : h'.get? s.heap.objs.size = some (listO [] 0) := G₂.keep _ _ hlist
  show wpAny _ A (do holding [Value.ref s.heap.objs.size] (bindName env y (Value.int i s.toks)); assignInOrder [fun v => bindName env x v] [Value.ref s.heap.objs.size]) _ E _
  have Ip := I₂.protectN hno hl2 (locals_ne I₂ hl2) hgn
  refine wpAny_bind (wpAny_holding (wpAny_bindName (wpAny_mono (Ip.store_rd h1 (.int _ _) (ky.ok hsc (ow.protectL I₂ hl2))) (fun _ s₃ I₃ => ?_) fun _ _ x => x)))
  have hl3 : s₃.heap.get? s.heap.objs.size = some (listO [] 0) := I₃.prot _ _ (Gh.add_self _ _ _)
  have I₄ := I₃.unprotect (fresh_F I hnone).2 I₂.protF
  show wpAny _ A (do holding [] (bindName env x (.ref s.heap.objs.size)); pure ()) _ E _
  refine wpAny_bind (wpAny_holding (wpAny_bindName (wpAny_mono (I₄.store_m ow hsc h2 kx hl3 hgn (fresh_F I hnone).1 (fresh_F I hnone).2 .nil (fun z zs b hz hne _ m hm hn q => ?_)) (fun _ s₄ I₅ => wpAny_pure ⟨g, rfl, I₅⟩) fun _ _ x => x)))
  have := I₃.addr hz hm hn
  rw [q, show (F.with s.heap.objs.size (listO [] 0) g).K s.heap.objs.size = some (listO [] 0) from Gh.add_self _ _ _] at this
  cases this

/-- x, y = [], [] (both local: the second stored first) -/
theorem ExS.pair_mm {x y : Str} {px py tp lp cp ep pos : Pos} {kk kt : Nat} (hno : NoM σ) (h1 : Set1 y (.mlist []) σ σ') (h2 : Set1 x (.mlist []) σ' σ'') (kx : KindS sc x) (ky : KindS sc y)
    (hw : ∀ env, env.scope = sc → swappedStores [.Tuple [.Name x px, .Name y py] kk tp] (.Tuple [.List [] lp, .List [] cp] kt ep) env = pure (some [x, y])) :
    ExS prog w h₁ n sc σ (.Assign [.Tuple [.Name x px, .Name y py] kk tp] (.Tuple [.List [] lp, .List [] cp] kt ep) pos) (.next σ'') := fun A E env F s g rm hsc ow I => by
  refine Assign_Tuple_swapped (names := [x, y]) ?_ rfl (hw env hsc)
  refine wpAny_Tuple (wpAny_items_cons (wpAny_List (wpAny_items_nil ⟨by decide, wpAny_items_cons (wpAny_List (wpAny_items_nil ⟨by decide, wpAny_items_nil ⟨show 2 ≤ sizeLine by decide, ?_⟩⟩))⟩)))
  let hp := s.heap.push { cls := .type "list", data := .seq ([] : List Value).toArray }
  let hq := hp.push { cls := .type "list", data := .seq ([] : List Value).toArray }
  let t := { cls := Value.type "tuple", data := Data.seq [Value.ref s.heap.objs.size, Value.ref hp.objs.size].toArray : Obj }
  have hsz : hp.objs.size = s.heap.objs.size + 1 := Heap.size_push ..
  have hl1 : (hq.push t).get? s.heap.objs.size = some (listO [] 0) := Heap.get?_push_of_some _ (Heap.get?_push_of_some _ (Heap.get?_push_size _ rfl))
  have hl1' : (hq.push t).get? hp.objs.size = some (listO [] 0) := Heap.get?_push_of_some _ (Heap.get?_push_size _ rfl)
  have hnone : s.heap.get? s.heap.objs.size = none := get?_none_of_size (Nat.le_refl _)
  have hnone' : s.heap.get? hp.objs.size = none := get?_none_of_size (by rw [hsz]; exact Nat.le_succ _)
  have hgn : g s.heap.objs.size = none := none_g I.wf.sub hnone
  have hgn' : g hp.objs.size = none := none_g I.wf.sub hnone'
  have G₁ : Grow s g { s with heap := hq.push t } g := Grow.kept I.wf.sub (fun _ _ e => Heap.get?_push_of_some _ (Heap.get?_push_of_some _ (Heap.get?_push_of_some _ e))) rfl rfl
  have I₁ := I.grow' G₁
  refine unpackItems_tuple (s := { s with heap := hq.push t }) rm.handled (items := #[Value.ref s.heap.objs.size, Value.ref hp.objs.size]) ⟨_, Heap.get?_push_size _ rfl, rfl, 0, rfl⟩ fun h' he => ?_
  have G₂ := KeptBy.inv I₁ he
  have I₂ := I₁.grow' G₂
  have hl2 : h'.get? s.heap.objs.size = some (listO [] 0) := G₂.keep _ _ hl1
  have hl2' : h'.get? hp.objs.size = some (listO [] 0) := G₂.keep _ _ hl1'
  show wpAny _ A (do holding [Value.ref s.heap.objs.size] (bindName env y (Value.ref hp.objs.size)); assignInOrder [fun v => bindName env x v] [Value.ref s.heap.objs.size]) _ E _
  have Ip := I₂.protectN hno hl2 (locals_ne I₂ hl2) hgn
  have hKn : (F.with s.heap.objs.size (listO [] 0) g).K hp.objs.size = none := by
    show (F.K.add s.heap.objs.size (listO [] 0)) hp.objs.size = none
    rw [Gh.add_other (by rw [hsz]; exact Nat.succ_ne_self _)]; exact (fresh_F I hnone').2
  refine wpAny_bind (wpAny_holding (wpAny_bindName (wpAny_mono (Ip.store_m (ow.protectL I₂ hl2) hsc h1 ky hl2' hgn' (fresh_F I hnone').1 hKn .nil (fun z zs b hz hne => absurd hz (hno z zs))) (fun _ s₃ I₃ => ?_) fun _ _ x => x)))
  have hl3 : s₃.heap.get? s.heap.objs.size = some (listO [] 0) := I₃.prot _ _ (Gh.add_self _ _ _)
  have I₄ := I₃.unprotect (fresh_F I hnone).2 I₂.protF
  show wpAny _ A (do holding [] (bindName env x (.ref s.heap.objs.size)); pure ()) _ E _
  refine wpAny_bind (wpAny_holding (wpAny_bindName (wpAny_mono (I₄.store_m ow hsc h2 kx hl3 hgn (fresh_F I hnone).1 (fresh_F I hnone).2 .nil (fun z zs b hz hne _ m hm hn q => ?_)) (fun _ s₄ I₅ => wpAny_pure ⟨g, rfl, I₅⟩) fun _ _ x => x)))
  have := I₃.addr hz hm hn
  rw [q, show (F.with s.heap.objs.size (listO [] 0) g).K s.heap.objs.size = some (listO [] 0) from Gh.add_self _ _ _] at this
  cases this
end
end Mine
end

-- part MSplit
section

open PySem PySem.W PyProof.Rows
set_option linter.unusedVariables false
set_option maxRecDepth 100000
namespace Mine
open Builtin Builtin.Str

noncomputable def NoDot (l : List Nat) : Prop := ∀ c ∈ l, c ≠ 46
noncomputable abbrev dot3 : List Nat := [46, 46, 46]

theorem at_first {x : List Nat} {hi k : Nat} (h : AtL x dot3 hi k) : x[k]? = some 46 := by
  have := congrArg (fun l : List Nat => l[0]?) h.2
  simp only [List.length_cons, List.length_nil] at this
  rw [List.getElem?_take_of_lt (by omega), List.getElem?_drop] at this
  simpa using this
theorem not_at_part {x p rest : List Nat} {a hi k : Nat} (hx : x.drop a = p ++ rest) (hp : NoDot p) (h1 : a ≤ k) (h2 : k < a + p.length) : ¬ AtL x dot3 hi k := fun h => by
  have e := at_first h
  have : (x.drop a)[k - a]? = some 46 := by rw [List.getElem?_drop, show a + (k - a) = k by omega]; exact e
  rw [hx, List.getElem?_append_left (by omega)] at this
  exact hp 46 (List.mem_of_getElem? this) rfl

theorem parts_of (x : List Nat) : ∀ (parts : List (List Nat)) (a : Nat) (cuts : List Nat) (f : Nat), a ≤ x.length → x.drop a = inter dot3 parts → parts ≠ [] → (∀ p ∈ parts, NoDot p) →
    StrLaws.ChainG (S x) (S dot3) (S x).length a cuts f → (∀ k, f ≤ k → ¬ StrLaws.At (S x) (S dot3) (S x).length k) → StrLaws.partsFrom (S x) (S dot3).length a cuts = parts.map S
  | [], _, _, _, _, _, h, _, _, _ => absurd rfl h
  | [p], a, cuts, f, ha, hx, _, hp, hc, hf => by
    have hno : ∀ k, a ≤ k → ¬ StrLaws.At (S x) (S dot3) (S x).length k := fun k hk h => by
      rw [at_iff] at h
      have e := at_first h
      have : (x.drop a)[k - a]? = some 46 := by rw [List.getElem?_drop, show a + (k - a) = k by omega]; exact e
      rw [hx] at this
      exact hp p (List.mem_cons_self ..) 46 (List.mem_of_getElem? this) rfl
    cases cuts with
    | nil =>
      show [strSub (S x) a (S x).length] = [S p]
      congr 1
      have h := StrLaws.strSub_toList (S x) a (S x).length
      rw [S_toList, S_length, hx, List.take_of_length_le (by rw [← hx, List.length_drop]; exact Nat.le_refl _)] at h
      rw [S_length, StrLaws.mk_of_toList h]; rfl
    | cons c r => exact absurd hc.2.1 (hno c hc.1)
  | p :: q :: r, a, cuts, f, ha, hx, _, hp, hc, hf => by
    have hx' : x.drop a = p ++ (dot3 ++ inter dot3 (q :: r)) := by rw [hx, inter, List.append_assoc]
    have hlen : x.length - a = p.length + (3 + (inter dot3 (q :: r)).length) := by
      have := congrArg List.length hx'; simp at this; omega
    have hat : StrLaws.At (S x) (S dot3) (S x).length (a + p.length) := by
      rw [at_iff, S_length]
      refine ⟨by simp; omega, ?_⟩
      rw [← List.drop_drop, hx', List.drop_left]
      simp
    have hnot : ∀ k, a ≤ k → k < a + p.length → ¬ StrLaws.At (S x) (S dot3) (S x).length k := fun k h1 h2 => by
      rw [at_iff]; exact not_at_part hx' (hp p (List.mem_cons_self ..)) h1 h2
    cases cuts with
    | nil =>
      have e : f = a := hc
      exact absurd hat (hf _ (by omega))
    | cons c rr =>
      obtain ⟨h1, h2, h3, h4⟩ := hc
      have hcc : c = a + p.length := by
        rcases Nat.lt_trichotomy c (a + p.length) with h | h | h
        · exact absurd h2 (hnot c h1 h)
        · exact h
        · exact absurd hat (h3 _ (by omega) h)
      subst hcc
      have hd : x.drop (a + p.length + 3) = inter dot3 (q :: r) := by
        rw [← List.drop_drop, ← List.drop_drop, hx', List.drop_left]; rfl
      have ih := parts_of x (q :: r) (a + p.length + 3) rr f (by omega) hd (by simp) (fun z hz => hp z (List.mem_cons_of_mem _ hz)) h4 hf
      show strSub (S x) a (a + p.length) :: StrLaws.partsFrom (S x) (S dot3).length (a + p.length + (S dot3).length) rr = S p :: (q :: r).map S
      rw [show (S dot3).length = 3 from rfl] at ih ⊢
      rw [ih]
      congr 1
      have h := StrLaws.strSub_toList (S x) a (a + p.length)
      rw [S_toList, hx', show a + p.length - a = p.length by omega, List.take_left] at h
      rw [StrLaws.mk_of_toList h]; rfl

theorem kind_ge (x : Str) : ¬ Builtin.Str.strKind x < Builtin.Str.strKind (S dot3) := by
  have h : Builtin.Str.strKind (S dot3) = 1 := by decide +kernel
  rw [h]; unfold Builtin.Str.strKind; split <;> (try split) <;> omega

theorem split_dots (parts : List (List Nat)) (hne : parts ≠ []) (hp : ∀ p ∈ parts, NoDot p) : Txt.split (S (inter dot3 parts)) (S dot3) = parts.map S := by
  obtain ⟨f, hc, hf⟩ := StrLaws.occ_tight (S (inter dot3 parts)) (S dot3) (by decide)
  have key := parts_of (inter dot3 parts) parts 0 _ f (Nat.zero_le _) (List.drop_zero) hne hp hc hf
  unfold Txt.split
  split
  · rename_i h
    rcases Bool.or_eq_true_iff.mp h with h | h
    · match parts, hne with
      | [p], _ => rfl
      | p :: q :: r, _ =>
        simp only [decide_eq_true_eq, S_length, inter, List.length_append, List.length_cons, List.length_nil] at h
        omega
    · exact absurd (by simpa using h) (kind_ge _)
  · split
    · rename_i h
      rw [List.isEmpty_iff.mp h] at key
      rw [← key]
      show _ = [strSub _ 0 _]
      congr 1
      have h := StrLaws.strSub_toList (S (inter dot3 parts)) 0 (S (inter dot3 parts)).length
      rw [S_toList, S_length, List.drop_zero, List.take_of_length_le (by simp)] at h
      rw [S_length, StrLaws.mk_of_toList h]; rfl
    · rw [StrLaws.partsBetween_eq]; exact key

theorem rdl_values {g : Gh} : ∀ (l : List (Str × Tok)), RdL g (strValues l) (sL (l.map (·.1)))
  | [] => .nil
  | (x, t) :: r => .cons (.str x t) (rdl_values r)

section
variable {prog : Program} {w : World} {h₁ : Heap} {mg mb : Str → Option Value} {n : Nat} {sc : Scope} {σ σ' σ'' : List (Str × D)}

theorem call_split {A : Around} {E : Value → Shared → Prop} {s : Shared} {x y : Str} {t u : Tok} {Q : Value → Shared → Prop} (hy : (y.length == 0) = false)
    (hq : ∀ l k, l.map (·.1) = Txt.split x y → Q (.ref s.heap.objs.size) { s with heap := s.heap.push (listO (strValues l) 0), toks := k })
    (hsz : x.length ≤ sizeLine) (hsz2 : (partsBetween x (occurrences x y 0 x.length (x.length + 1)) y.length).length ≤ sizeLine) : wpAny (model prog w) A (call (.builtin "str.split") [.str x t, .str y u]) Q E s := by
  cases h1 : (decide (x.length < y.length) || decide (Builtin.Str.strKind x < Builtin.Str.strKind y))
  · cases hf : (occurrences x y 0 x.length (x.length + 1)).isEmpty
    · refine call_meets F.slot_str_split (typeIs_str _ _ _) F.entry_str_split (F.args_str_split_2 _ _) (meets_str_split_sep x y t u h1 hy hf hsz hsz2) ?_
      show wants Q E _ { s with toks := _, heap := s.heap.push { cls := .type "list", data := .seq (strsFrom s.toks (partsBetween x (occurrences x y 0 x.length (x.length + 1)) y.length)).toArray } }
      rw [strsFrom_eq]
      exact hq (numbered s.toks _) _ ((numbered_texts _ _).trans ((if_neg (ne_true_of_eq_false h1)).trans (if_neg (ne_true_of_eq_false hf))).symm)
    · exact call_meets F.slot_str_split (typeIs_str _ _ _) F.entry_str_split (F.args_str_split_2 _ _) (meets_str_split_not_found x y t u h1 hy hf)
        (hq [(x, t)] s.toks ((if_neg (ne_true_of_eq_false h1)).trans (if_pos hf)).symm)
  · exact call_meets F.slot_str_split (typeIs_str _ _ _) F.entry_str_split (F.args_str_split_2 _ _) (meets_str_split_cannot_occur x y t u h1)
      (hq [(x, t)] s.toks (if_pos h1).symm)

/-- o.split(e) at three dots -/
theorem EvM.split {o e : Expr} {apos pos : Pos} {parts : List (List Nat)} (hne : parts ≠ []) (hp : ∀ p ∈ parts, NoDot p) (hz : (inter dot3 parts).length ≤ 1000) (ho : EvE prog w h₁ n sc σ o (tx (inter dot3 parts))) (he : EvE prog w h₁ n sc σ e (tx dot3))
    (hb : ∀ env whole, attributeBase o (Str.ofString "split") env whole = whole) (hpos : ∀ env, methodCallPos true o env apos pos = pure pos)
    (hst : ∀ env, starEach [e] env = [(false, eval e env)]) : EvM prog w h₁ n sc σ (.Call (.Attribute o (Str.ofString "split") apos) [e] [] pos) (parts.map tx) := fun A E env F s g rm hs I => by
  rw [arm_eval_Call, hb]
  refine wpAny_bind (wpAny_mono (ho A E env F s g rm hs I) (fun v s₁ ⟨g₁, G₁, r₁⟩ => ?_) fun _ _ x => x)
  cases r₁
  have I₁ := I.grow' G₁
  refine wpAny_bind (wpAny_standAt ?_)
  show wpAny _ A (methodCall o (Str.ofString "split") apos pos env _ 1 (backTo pos (starEach [e] env)) []) _ E s₁
  unfold methodCall
  have hf : methodCallForm 1 (backTo pos (starEach [e] env)) [] = true := by rw [hst]; rfl
  rw [hf, hpos env]
  refine wpAny_bind (wpAny_holding ?_)
  show wpAny _ A (getMethod _ (Str.ofString "split") (do return (← importBound o env).getD true)) _ E s₁
  refine GM.split ?_
  refine wpAny_bind (wpAny_pure ?_)
  have hev : EvL prog w h₁ n sc σ [e] [tx dot3] := EvL.cons he EvL.nil hst
  refine Calls.callWith_builtin (args_any _ _ (by rw [hst]; rfl)) (evalArgs_of (wpAny_mono (hev A E env F s₁ g₁ pos rm hs I₁) (fun us s₂ ⟨g₂, G₂, r₂⟩ => ?_) fun _ _ x => x) (hst env))
  cases r₂ with | cons r1 r2 =>
  cases r2
  cases r1
  have hsz : (S (inter dot3 parts)).length ≤ sizeLine := by rw [S_length]; exact Nat.le_trans hz (by decide)
  have hsplit := split_dots parts hne hp
  refine call_split (by decide) (fun l k hl => ?_) hsz ?_
  · rw [hsplit] at hl
    have hnone : s₂.heap.get? s₂.heap.objs.size = none := get?_none_of_size (Nat.le_refl _)
    have G := G₁.trans G₂
    have G₃ : Grow s₂ g₂ { s₂ with heap := s₂.heap.push (listO (strValues l) 0), toks := k } g₂ := Grow.kept G.sub (fun _ _ e => Heap.get?_push_of_some _ e) rfl rfl
    refine ⟨g₂, G.trans G₃, _, strValues l, 0, rfl, ?_, none_g G.sub hnone, Heap.get?_push_size _ rfl, ?_⟩
    · cases q : s.heap.get? s₂.heap.objs.size with
      | none => rfl
      | some o' => have := G.keep _ _ q; rw [hnone] at this; cases this
    · have := rdl_values (g := g₂) l
      rw [hl, sL_tx] at this
      exact this
  · have hl := StrLaws.occ_length_le (S (inter dot3 parts)) (S dot3) 0 (S (inter dot3 parts)).length ((S (inter dot3 parts)).length + 1)
    have h2 := parts_le (S (inter dot3 parts)) (occurrences (S (inter dot3 parts)) (S dot3) 0 (S (inter dot3 parts)).length ((S (inter dot3 parts)).length + 1)) (S dot3).length
    rw [S_length] at hl h2
    have : sizeLine = 16777216 := rfl
    rw [S_length]
    omega
where
  parts_le (x : Str) (cuts : List Nat) (w : Nat) : (partsBetween x cuts w).length ≤ cuts.length + 1 := by
    rw [StrLaws.partsBetween_eq]
    generalize 0 = a
    induction cuts generalizing a with
    | nil => simp [StrLaws.partsFrom]
    | cons c r ih => simp only [StrLaws.partsFrom, List.length_cons]; exact Nat.succ_le_succ (ih _)
end
end Mine
end

-- one step of an evaluation
local macro_rules | `(tactic| walk_at "m look") => `(tactic| first | with_reducible exact Mine.Look.here | with_reducible exact Mine.Look.there Mine.Look.here | with_reducible exact Mine.Look.there (Mine.Look.there Mine.Look.here) | with_reducible exact Mine.Look.there (Mine.Look.there (Mine.Look.there Mine.Look.here)) | with_reducible exact Mine.Look.there (Mine.Look.there (Mine.Look.there (Mine.Look.there Mine.Look.here))) | with_reducible exact Mine.Look.there (Mine.Look.there (Mine.Look.there (Mine.Look.there (Mine.Look.there Mine.Look.here)))) | with_reducible exact Mine.Look.there (Mine.Look.there (Mine.Look.there (Mine.Look.there (Mine.Look.there (Mine.Look.there Mine.Look.here))))) | with_reducible exact Mine.Look.there (Mine.Look.there (Mine.Look.there (Mine.Look.there (Mine.Look.there (Mine.Look.there (Mine.Look.there Mine.Look.here)))))) | with_reducible exact Mine.Look.there (Mine.Look.there (Mine.Look.there (Mine.Look.there (Mine.Look.there (Mine.Look.there (Mine.Look.there (Mine.Look.there Mine.Look.here))))))) | with_reducible exact Mine.Look.there (Mine.Look.there (Mine.Look.there (Mine.Look.there (Mine.Look.there (Mine.Look.there (Mine.Look.there (Mine.Look.there (Mine.Look.there Mine.Look.here)))))))) | with_reducible exact Mine.Look.there (Mine.Look.there (Mine.Look.there (Mine.Look.there (Mine.Look.there (Mine.Look.there (Mine.Look.there (Mine.Look.there (Mine.Look.there (Mine.Look.there Mine.Look.here))))))))) | with_reducible exact Mine.Look.there (Mine.Look.there (Mine.Look.there (Mine.Look.there (Mine.Look.there (Mine.Look.there (Mine.Look.there (Mine.Look.there (Mine.Look.there (Mine.Look.there (Mine.Look.there Mine.Look.here)))))))))) | with_reducible exact Mine.Look.there (Mine.Look.there (Mine.Look.there (Mine.Look.there (Mine.Look.there (Mine.Look.there (Mine.Look.there (Mine.Look.there (Mine.Look.there (Mine.Look.there (Mine.Look.there (Mine.Look.there Mine.Look.here))))))))))) | with_reducible exact Mine.Look.there (Mine.Look.there (Mine.Look.there (Mine.Look.there (Mine.Look.there (Mine.Look.there (Mine.Look.there (Mine.Look.there (Mine.Look.there (Mine.Look.there (Mine.Look.there (Mine.Look.there (Mine.Look.there Mine.Look.here)))))))))))) | with_reducible exact Mine.Look.there (Mine.Look.there (Mine.Look.there (Mine.Look.there (Mine.Look.there (Mine.Look.there (Mine.Look.there (Mine.Look.there (Mine.Look.there (Mine.Look.there (Mine.Look.there (Mine.Look.there (Mine.Look.there (Mine.Look.there Mine.Look.here))))))))))))) | with_reducible exact Mine.Look.there (Mine.Look.there (Mine.Look.there (Mine.Look.there (Mine.Look.there (Mine.Look.there (Mine.Look.there (Mine.Look.there (Mine.Look.there (Mine.Look.there (Mine.Look.there (Mine.Look.there (Mine.Look.there (Mine.Look.there (Mine.Look.there Mine.Look.here)))))))))))))) | with_reducible exact Mine.Look.there (Mine.Look.there (Mine.Look.there (Mine.Look.there (Mine.Look.there (Mine.Look.there (Mine.Look.there (Mine.Look.there (Mine.Look.there (Mine.Look.there (Mine.Look.there (Mine.Look.there (Mine.Look.there (Mine.Look.there (Mine.Look.there (Mine.Look.there Mine.Look.here))))))))))))))) | with_reducible exact Mine.Look.there (Mine.Look.there (Mine.Look.there (Mine.Look.there (Mine.Look.there (Mine.Look.there (Mine.Look.there (Mine.Look.there (Mine.Look.there (Mine.Look.there (Mine.Look.there (Mine.Look.there (Mine.Look.there (Mine.Look.there (Mine.Look.there (Mine.Look.there (Mine.Look.there Mine.Look.here)))))))))))))))) | with_reducible exact Mine.Look.there (Mine.Look.there (Mine.Look.there (Mine.Look.there (Mine.Look.there (Mine.Look.there (Mine.Look.there (Mine.Look.there (Mine.Look.there (Mine.Look.there (Mine.Look.there (Mine.Look.there (Mine.Look.there (Mine.Look.there (Mine.Look.there (Mine.Look.there (Mine.Look.there (Mine.Look.there Mine.Look.here))))))))))))))))) | with_reducible exact Mine.Look.there (Mine.Look.there (Mine.Look.there (Mine.Look.there (Mine.Look.there (Mine.Look.there (Mine.Look.there (Mine.Look.there (Mine.Look.there (Mine.Look.there (Mine.Look.there (Mine.Look.there (Mine.Look.there (Mine.Look.there (Mine.Look.there (Mine.Look.there (Mine.Look.there (Mine.Look.there (Mine.Look.there Mine.Look.here)))))))))))))))))) | with_reducible exact Mine.Look.there (Mine.Look.there (Mine.Look.there (Mine.Look.there (Mine.Look.there (Mine.Look.there (Mine.Look.there (Mine.Look.there (Mine.Look.there (Mine.Look.there (Mine.Look.there (Mine.Look.there (Mine.Look.there (Mine.Look.there (Mine.Look.there (Mine.Look.there (Mine.Look.there (Mine.Look.there (Mine.Look.there (Mine.Look.there Mine.Look.here))))))))))))))))))) | with_reducible exact Mine.Look.there (Mine.Look.there (Mine.Look.there (Mine.Look.there (Mine.Look.there (Mine.Look.there (Mine.Look.there (Mine.Look.there (Mine.Look.there (Mine.Look.there (Mine.Look.there (Mine.Look.there (Mine.Look.there (Mine.Look.there (Mine.Look.there (Mine.Look.there (Mine.Look.there (Mine.Look.there (Mine.Look.there (Mine.Look.there (Mine.Look.there Mine.Look.here)))))))))))))))))))) | with_reducible exact Mine.Look.there (Mine.Look.there (Mine.Look.there (Mine.Look.there (Mine.Look.there (Mine.Look.there (Mine.Look.there (Mine.Look.there (Mine.Look.there (Mine.Look.there (Mine.Look.there (Mine.Look.there (Mine.Look.there (Mine.Look.there (Mine.Look.there (Mine.Look.there (Mine.Look.there (Mine.Look.there (Mine.Look.there (Mine.Look.there (Mine.Look.there (Mine.Look.there Mine.Look.here))))))))))))))))))))) | with_reducible exact Mine.Look.there (Mine.Look.there (Mine.Look.there (Mine.Look.there (Mine.Look.there (Mine.Look.there (Mine.Look.there (Mine.Look.there (Mine.Look.there (Mine.Look.there (Mine.Look.there (Mine.Look.there (Mine.Look.there (Mine.Look.there (Mine.Look.there (Mine.Look.there (Mine.Look.there (Mine.Look.there (Mine.Look.there (Mine.Look.there (Mine.Look.there (Mine.Look.there (Mine.Look.there Mine.Look.here)))))))))))))))))))))))
local macro_rules | `(tactic| walk_at "m set") => `(tactic| first | with_reducible exact Mine.Set1.here | with_reducible exact Mine.Set1.there Mine.Set1.here | with_reducible exact Mine.Set1.there (Mine.Set1.there Mine.Set1.here) | with_reducible exact Mine.Set1.there (Mine.Set1.there (Mine.Set1.there Mine.Set1.here)) | with_reducible exact Mine.Set1.there (Mine.Set1.there (Mine.Set1.there (Mine.Set1.there Mine.Set1.here))) | with_reducible exact Mine.Set1.there (Mine.Set1.there (Mine.Set1.there (Mine.Set1.there (Mine.Set1.there Mine.Set1.here)))) | with_reducible exact Mine.Set1.there (Mine.Set1.there (Mine.Set1.there (Mine.Set1.there (Mine.Set1.there (Mine.Set1.there Mine.Set1.here))))) | with_reducible exact Mine.Set1.there (Mine.Set1.there (Mine.Set1.there (Mine.Set1.there (Mine.Set1.there (Mine.Set1.there (Mine.Set1.there Mine.Set1.here)))))) | with_reducible exact Mine.Set1.there (Mine.Set1.there (Mine.Set1.there (Mine.Set1.there (Mine.Set1.there (Mine.Set1.there (Mine.Set1.there (Mine.Set1.there Mine.Set1.here))))))) | with_reducible exact Mine.Set1.there (Mine.Set1.there (Mine.Set1.there (Mine.Set1.there (Mine.Set1.there (Mine.Set1.there (Mine.Set1.there (Mine.Set1.there (Mine.Set1.there Mine.Set1.here)))))))) | with_reducible exact Mine.Set1.there (Mine.Set1.there (Mine.Set1.there (Mine.Set1.there (Mine.Set1.there (Mine.Set1.there (Mine.Set1.there (Mine.Set1.there (Mine.Set1.there (Mine.Set1.there Mine.Set1.here))))))))) | with_reducible exact Mine.Set1.there (Mine.Set1.there (Mine.Set1.there (Mine.Set1.there (Mine.Set1.there (Mine.Set1.there (Mine.Set1.there (Mine.Set1.there (Mine.Set1.there (Mine.Set1.there (Mine.Set1.there Mine.Set1.here)))))))))) | with_reducible exact Mine.Set1.there (Mine.Set1.there (Mine.Set1.there (Mine.Set1.there (Mine.Set1.there (Mine.Set1.there (Mine.Set1.there (Mine.Set1.there (Mine.Set1.there (Mine.Set1.there (Mine.Set1.there (Mine.Set1.there Mine.Set1.here))))))))))) | with_reducible exact Mine.Set1.there (Mine.Set1.there (Mine.Set1.there (Mine.Set1.there (Mine.Set1.there (Mine.Set1.there (Mine.Set1.there (Mine.Set1.there (Mine.Set1.there (Mine.Set1.there (Mine.Set1.there (Mine.Set1.there (Mine.Set1.there Mine.Set1.here)))))))))))) | with_reducible exact Mine.Set1.there (Mine.Set1.there (Mine.Set1.there (Mine.Set1.there (Mine.Set1.there (Mine.Set1.there (Mine.Set1.there (Mine.Set1.there (Mine.Set1.there (Mine.Set1.there (Mine.Set1.there (Mine.Set1.there (Mine.Set1.there (Mine.Set1.there Mine.Set1.here))))))))))))) | with_reducible exact Mine.Set1.there (Mine.Set1.there (Mine.Set1.there (Mine.Set1.there (Mine.Set1.there (Mine.Set1.there (Mine.Set1.there (Mine.Set1.there (Mine.Set1.there (Mine.Set1.there (Mine.Set1.there (Mine.Set1.there (Mine.Set1.there (Mine.Set1.there (Mine.Set1.there Mine.Set1.here)))))))))))))) | with_reducible exact Mine.Set1.there (Mine.Set1.there (Mine.Set1.there (Mine.Set1.there (Mine.Set1.there (Mine.Set1.there (Mine.Set1.there (Mine.Set1.there (Mine.Set1.there (Mine.Set1.there (Mine.Set1.there (Mine.Set1.there (Mine.Set1.there (Mine.Set1.there (Mine.Set1.there (Mine.Set1.there Mine.Set1.here))))))))))))))) | with_reducible exact Mine.Set1.there (Mine.Set1.there (Mine.Set1.there (Mine.Set1.there (Mine.Set1.there (Mine.Set1.there (Mine.Set1.there (Mine.Set1.there (Mine.Set1.there (Mine.Set1.there (Mine.Set1.there (Mine.Set1.there (Mine.Set1.there (Mine.Set1.there (Mine.Set1.there (Mine.Set1.there (Mine.Set1.there Mine.Set1.here)))))))))))))))) | with_reducible exact Mine.Set1.there (Mine.Set1.there (Mine.Set1.there (Mine.Set1.there (Mine.Set1.there (Mine.Set1.there (Mine.Set1.there (Mine.Set1.there (Mine.Set1.there (Mine.Set1.there (Mine.Set1.there (Mine.Set1.there (Mine.Set1.there (Mine.Set1.there (Mine.Set1.there (Mine.Set1.there (Mine.Set1.there (Mine.Set1.there Mine.Set1.here))))))))))))))))) | with_reducible exact Mine.Set1.there (Mine.Set1.there (Mine.Set1.there (Mine.Set1.there (Mine.Set1.there (Mine.Set1.there (Mine.Set1.there (Mine.Set1.there (Mine.Set1.there (Mine.Set1.there (Mine.Set1.there (Mine.Set1.there (Mine.Set1.there (Mine.Set1.there (Mine.Set1.there (Mine.Set1.there (Mine.Set1.there (Mine.Set1.there (Mine.Set1.there Mine.Set1.here)))))))))))))))))) | with_reducible exact Mine.Set1.there (Mine.Set1.there (Mine.Set1.there (Mine.Set1.there (Mine.Set1.there (Mine.Set1.there (Mine.Set1.there (Mine.Set1.there (Mine.Set1.there (Mine.Set1.there (Mine.Set1.there (Mine.Set1.there (Mine.Set1.there (Mine.Set1.there (Mine.Set1.there (Mine.Set1.there (Mine.Set1.there (Mine.Set1.there (Mine.Set1.there (Mine.Set1.there Mine.Set1.here))))))))))))))))))) | with_reducible exact Mine.Set1.there (Mine.Set1.there (Mine.Set1.there (Mine.Set1.there (Mine.Set1.there (Mine.Set1.there (Mine.Set1.there (Mine.Set1.there (Mine.Set1.there (Mine.Set1.there (Mine.Set1.there (Mine.Set1.there (Mine.Set1.there (Mine.Set1.there (Mine.Set1.there (Mine.Set1.there (Mine.Set1.there (Mine.Set1.there (Mine.Set1.there (Mine.Set1.there (Mine.Set1.there Mine.Set1.here)))))))))))))))))))) | with_reducible exact Mine.Set1.there (Mine.Set1.there (Mine.Set1.there (Mine.Set1.there (Mine.Set1.there (Mine.Set1.there (Mine.Set1.there (Mine.Set1.there (Mine.Set1.there (Mine.Set1.there (Mine.Set1.there (Mine.Set1.there (Mine.Set1.there (Mine.Set1.there (Mine.Set1.there (Mine.Set1.there (Mine.Set1.there (Mine.Set1.there (Mine.Set1.there (Mine.Set1.there (Mine.Set1.there (Mine.Set1.there Mine.Set1.here))))))))))))))))))))) | with_reducible exact Mine.Set1.there (Mine.Set1.there (Mine.Set1.there (Mine.Set1.there (Mine.Set1.there (Mine.Set1.there (Mine.Set1.there (Mine.Set1.there (Mine.Set1.there (Mine.Set1.there (Mine.Set1.there (Mine.Set1.there (Mine.Set1.there (Mine.Set1.there (Mine.Set1.there (Mine.Set1.there (Mine.Set1.there (Mine.Set1.there (Mine.Set1.there (Mine.Set1.there (Mine.Set1.there (Mine.Set1.there (Mine.Set1.there Mine.Set1.here)))))))))))))))))))))))
local macro_rules | `(tactic| walk_at "m ev") => `(tactic| first
  | with_reducible exact Mine.EvE.const_int
  | with_reducible exact Mine.EvE.k_empty | with_reducible exact Mine.EvE.k_dots | with_reducible exact Mine.EvE.k_quote | with_reducible exact Mine.EvE.k_bs
  | with_reducible exact Mine.EvE.const_bool | with_reducible exact Mine.EvE.const_none
  | with_reducible exact Mine.EvL.nil
  | with_reducible exact Mine.EvP.none
  | with_reducible refine' Mine.EvP.some ?_
  | ((with_reducible refine' Mine.EvL.cons' ?_ ?_ ?he); (case he => intro _; rfl))
  | ((with_reducible refine' Mine.EvE.nm ?h ?hk ?hd); (case h => walk_at "m look"); (case hk => rfl); (case hd => decide +kernel))
  | with_reducible refine' Mine.EvE.cutT ?_ ?_ ?_ ?_
  | with_reducible refine' Mine.EvE.cutI ?_ ?_ ?_ ?_
  | with_reducible refine' Mine.EvE.binop ?_ ?_ ?_
  | ((with_reducible refine' Mine.EvE.cmp' ?hm ?_ ?_ ?_); (case hm => with_unfolding_all rfl))
  | ((with_reducible refine' Mine.EvB.cmp' ?hm ?_ ?_ ?_); (case hm => with_unfolding_all rfl))
  | with_reducible refine' Mine.EvB.not ?_
  | ((with_reducible refine' Mine.EvE.disp1 ?_ ?he); (case he => intro _; rfl))
  | with_reducible exact Mine.EvE.disp0
  | ((with_reducible refine' Mine.EvE.mt ?_ ?_ ?_ ?_ ?hb ?hp ?he ?hst ?hn); (case hb => intro _ _; rfl); (case hp => intro _; rfl); (case he => intro _; rfl); (case hst => intro _; rfl); (case hn => intro _; rfl))
  | ((with_reducible refine' Mine.EvE.sub' ?hs ?_ ?_ ?_); (case hs => intro _ _; with_unfolding_all rfl))
  | ((with_reducible refine' Mine.EvE.call_b ?B ?hg ?hk ?hd ?he ?hst ?_ ?_); (case B => with_reducible assumption); (case hg => with_reducible assumption); (case hk => decide +kernel); (case hd => decide +kernel); (case he => intro _; rfl); (case hst => intro _; rfl))
  | ((with_reducible refine' Mine.EvE.call_t ?B ?hg ?hk ?hd ?he ?hst ?_ ?_); (case B => with_reducible assumption); (case hg => with_reducible assumption); (case hk => decide +kernel); (case hd => decide +kernel); (case he => intro _; rfl); (case hst => intro _; rfl))
  | with_reducible exact Mine.OpE.add_int | with_reducible exact Mine.OpE.sub_int | with_reducible refine' Mine.OpE.mod_int ?_ | with_reducible refine' Mine.OpE.div_int ?_ ?_ | with_reducible refine' Mine.EvE.neg ?_
  | with_reducible refine' Mine.OpE.add_t ?_ | with_reducible refine' Mine.OpE.add_T ?_ | with_reducible refine' Mine.OpE.add_I ?_
  | with_reducible exact Mine.CmpE.eq_T | with_reducible exact Mine.CmpE.ne_T | with_reducible exact Mine.CmpE.eq_t | with_reducible exact Mine.CmpE.ne_t | with_reducible exact Mine.CmpE.in_T
  | with_reducible exact Mine.CmpE.lt_int | with_reducible exact Mine.CmpE.gt_int | with_reducible exact Mine.CmpE.ge_int | with_reducible exact Mine.CmpE.ne_int
  | with_reducible exact Mine.CmpE.ne_bool | with_reducible exact Mine.CmpE.isnot_bool
  | with_reducible exact Mine.MethE.join_t | with_reducible exact Mine.MethE.startswith_t | with_reducible exact Mine.MethE.endswith_t | with_reducible exact Mine.MethE.find_t
  | with_reducible refine' Mine.CallE.len_T ?_ | with_reducible refine' Mine.CallE.len_t ?_ | with_reducible refine' Mine.CallE.join_T ?_ | with_reducible refine' Mine.CallE.rangeI ?_ | with_reducible exact Mine.CallE.min_int)
local macro_rules | `(tactic| walk_at "m weak") => `(tactic| first | with_reducible exact Mine.Weak.nil | with_reducible refine Mine.Weak.same ?_ | with_reducible refine Mine.Weak.drop ?_)

-- part MDots
section

open PySem PySem.W PyProof.Rows
set_option linter.unusedVariables false
set_option maxRecDepth 100000
namespace Mine


/-- a row with three dots put in at each place -/
noncomputable def dotsF (row : List (List Nat)) : List (List Nat) := (List.range (row.length + 1)).map fun k => (row.take k).flatten ++ [46, 46, 46] ++ (row.drop k).flatten

/-- the total length of a row -/
noncomputable abbrev tot (row : List (List Nat)) : Nat := (row.map List.length).sum
theorem tot_take (row : List (List Nat)) (k : Nat) : tot (row.take k) ≤ tot row := by
  induction row generalizing k with
  | nil => simp
  | cons x r ih => cases k with
    | zero => simp [tot]
    | succ k => have := ih k; simp [tot] at this ⊢; omega
theorem tot_drop (row : List (List Nat)) (k : Nat) : tot (row.drop k) ≤ tot row := by
  induction row generalizing k with
  | nil => simp
  | cons x r ih => cases k with
    | zero => simp
    | succ k => have := ih k; simp [tot] at this ⊢; omega
theorem len_flatten (row : List (List Nat)) : row.flatten.length = tot row := by rw [List.length_flatten]
theorem tot_cut (row : List (List Nat)) (a b : Option Int) : tot (cut row a b) ≤ tot row := Nat.le_trans (tot_take _ _) (tot_drop _ _)

section
variable {prog : Program} {w : World} {h₁ : Heap} {mg mb : Str → Option Value} {n : Nat} {sc : Scope} {σ σ' : List (Str × D)}

theorem dots_calls (B : Bs h₁ mg mb) (hlen : Glob mg mb (Str.ofString "len") (.builtin "len")) (hrange : Glob mg mb (Str.ofString "range") (.type "range")) {a : Addr} (hf : FnAt h₁ mg 10 a) (row : List (List Nat)) (hr : row.length ≤ 100) (ht : tot row ≤ 1000) :
    CallE prog w h₁ (n + 1) (.ref a) [tL row] (tL (dotsF row)) := by
  obtain ⟨o, pm, cd, doc, ho, hd, hcd⟩ := hf.obj
  refine CallE.fn B (xs := [Str.ofString "row"]) (σ₀ := [(Str.ofString "row", tL row)]) ho hd hcd (fun vs hv => ?_) rfl (by decide +kernel) (by decide +kernel) (by simp) (by simp) (by intro x xs h; simp [tL] at h) ?_
  · obtain ⟨v, rfl⟩ := list_one vs hv
    rfl
  conv => arg 7; whnf
  refine ExL.ret (ExS.return_ ?_)
  refine EvE.compT (ds := rngL (row.length + 1)) (σc := [(Str.ofString "k", .unset), (Str.ofString "row", tL row)]) (d := .rng (row.length + 1))
    (out := (rngL (row.length + 1)).flatMap (fun d => match d with | .int i => [tx ((row.take i.toNat).flatten ++ [46, 46, 46] ++ (row.drop i.toNat).flatten)] | _ => [])) (by intro _ _; rfl) ?_ (IterE.rng (by omega)) ?_ (LoopE.one ?_ ?_) ?_ ?_
  · with_reducible refine' EvE.cast ?h ?e
    case h =>
      repeat' walk_at "m ev"
      all_goals omega
    case e => rfl
  · refine caps_of (σt := [(Str.ofString "k", .unset)]) (σk := [(Str.ofString "row", tL row)]) (fr := [Str.ofString "row"]) (by decide +kernel) ?_ (by simp) ?_ (by show List.Nodup [Str.ofString "k", Str.ofString "row"]; decide +kernel) (by decide +kernel)
    · refine List.forall_mem_cons.mpr ⟨⟨by decide +kernel, _, Look.here, rfl⟩, List.forall_mem_nil _⟩
    · refine List.forall_mem_cons.mpr ⟨⟨Look.here, rfl, by dsimp only; decide +kernel⟩, List.forall_mem_nil _⟩
  · intro x xs h; simp [tL] at h
  · intro d hd
    obtain ⟨i, hi, rfl⟩ := List.mem_map.mp hd
    refine ⟨[(Str.ofString "k", .int i), (Str.ofString "row", tL row)], AsgE.name Set1.here (by decide +kernel), .drop (.same .nil), by intro x xs h; simp [tL] at h, .inl ⟨rfl, _, ?_, rfl⟩⟩
    with_reducible refine' EvE.cast ?h ?e
    case h =>
      repeat' walk_at "m ev"
      all_goals (try simp only [inter_nil, len_flatten, List.length_append])
      all_goals (have h1 := tot_cut row none (some (i : Int)); have h2 := tot_cut row (some (i : Int)) none; simp only [tot, List.length_nil, Nat.mul_zero, List.length_cons] at *; omega)
    case e => rw [inter_nil, inter_nil, cut_upto, cut_from]; rfl
  · rw [List.flatMap_map, flatMap_one]; simp; omega
  · rw [List.flatMap_map, flatMap_one]; simp [dotsF, Function.comp_def]
end
end Mine
end

-- part MSet
section

open PySem PySem.W PyProof.Rows
set_option linter.unusedVariables false
set_option maxRecDepth 100000
namespace Mine

/-- whether the order of sets is as the text says -/
noncomputable def byT (w : World) : Bool := w.params.followText "set-order"

theorem lay_led (t : SetTable) (es : Array (Int × Value)) (h : Int) (x : Value) : (layNew t es h x).2.1.led = t.led := by
  unfold layNew SetTable.put SetTable.orStandIn SetTable.standIn
  split
  · dsimp only; (repeat' split) <;> rfl
  · rfl
theorem relay_led (t : SetTable) (es : Array (Int × Value)) (n : Nat) : (relayAll t es n).2.1.led = t.led ∧ (t.plain = false → (relayAll t es n).2.1.plain = false) := by
  unfold relayAll
  split
  · rename_i t' order e
    have he : t'.led = t.led ∧ t'.plain = t.plain := by
      unfold SetTable.relaid SetTable.laid at e
      cases hl : SetTable.layClean (SetTable.sizeAbove n - 1) (es.map (·.1)) with
      | none => rw [hl] at e; simp at e
      | some owner => rw [hl] at e; simp at e; rw [← e.1]; exact ⟨rfl, rfl⟩
    dsimp only
    split
    · exact ⟨he.1, fun h => he.2.trans h⟩
    · exact ⟨rfl, fun _ => rfl⟩
  · exact ⟨rfl, fun _ => rfl⟩

/-- a set of texts -/
noncomputable def SetL (prog : Program) (w : World) (h : Heap) (a : Addr) (ks : List Str) : Prop :=
  ∃ o es ep t, h.get? a = some o ∧ o.ExactSet ∧ o.data = .set es ep t ∧ ElemsOf (strKind prog w) es.toList ∧ (es.toList.map fun e => strOf e.2).Perm ks ∧ t.fits es.size = true ∧ t.led = (!byT w) ∧ (0 < es.size → t.plain = false) ∧ ks.length < 1000

section
variable {prog : Program} {w : World} {A : Around} {E : Value → Shared → Prop} {s : Shared}

theorem is_strOf {k : Str} {v : Value} (h : (strKind prog w).is k v = true) : strOf v = k ∧ ∃ t, v = .str k t := by
  obtain ⟨t, rfl⟩ := Value.isStrOf_shape h
  exact ⟨rfl, t, rfl⟩
theorem elem_str {l : List (Int × Value)} (h : ElemsOf (strKind prog w) l) : ∀ e ∈ l, ∃ t, e.2 = .str (strOf e.2) t := fun e he => by
  obtain ⟨⟨k, hk, _⟩, _⟩ := h e he
  obtain ⟨e1, t, e2⟩ := is_strOf hk
  exact ⟨t, by rw [e1]; exact e2⟩
theorem isStr_self (k : Str) (t : Tok) : (strKind prog w).is k (.str k t) = true := strKind_is prog w k t
theorem findIdx_mem {es : List (Int × Value)} (h : ElemsOf (strKind prog w) es) (k : Str) : (es.findIdx? (fun e => (strKind prog w).is k e.2)).isSome = decide (k ∈ es.map fun e => strOf e.2) := by
  rw [List.findIdx?_isSome, Bool.eq_iff_iff]
  simp only [List.any_eq_true, decide_eq_true_eq, List.mem_map]
  constructor
  · rintro ⟨e, he, hk⟩; exact ⟨e, he, (is_strOf hk).1⟩
  · rintro ⟨e, he, rfl⟩
    obtain ⟨t, e2⟩ := elem_str h e he
    refine ⟨e, he, ?_⟩
    rw [e2]; exact isStr_self _ _

noncomputable def addK (ks : List Str) (k : Str) : List Str := if k ∈ ks then ks else ks ++ [k]

theorem setAdd_L {a : Addr} {ks : List Str} {k : Str} {t : Tok} {Q : Bool → Shared → Prop} (hS : SetL prog w s.heap a ks) (hz : ks.length + 1 < 1000)
    (h : ∀ h' tk b, Heap.SameBut a s.heap h' → SetL prog w h' a (addK ks k) → Q b { s with heap := h', toks := tk }) :
    wpAny (model prog w) A (setAdd a (.str k t)) Q E s := by
  obtain ⟨o, es, ep, tb, ho, hex, hd, hel, hpm, hf, hled, hpl, hlen⟩ := hS
  have hsc : (Value.str k t).scannable = true := rfl
  have hkey := isStr_self (prog := prog) (w := w) k t
  have hsz : es.size = ks.length := by have := hpm.length_eq; simpa using this
  have hb1 : es.size < scanBound := by unfold scanBound; omega
  unfold setAdd
  refine wpAny_holding (wpAny_bind ((strKind prog w).pyHash hkey ?_))
  unfold setAddHashed setAddHashedIn
  refine wpAny_holding (wpAny_bind (wpAny_setState_of (s := { s with toks := s.toks + 1 }) ho hd hf ?_))
  dsimp only
  rw [byScan_of hsc hb1 hel]
  simp only [↓reduceIte]
  unfold setAddByScan
  refine wpAny_bind (wpAny_bind (wpAny_rule (wpAny_bind (wpAny_setScan_of (s := { s with toks := s.toks + 1 }) hkey ho hd hf hel ?_))))
  have hfi := findIdx_mem hel k
  cases hr : List.findIdx? (fun e => (strKind prog w).is k e.2) es.toList with
  | some j =>
    rw [hr] at hfi
    have hm : k ∈ ks := hpm.mem_iff.mp (by simpa using hfi.symm)
    dsimp only
    refine wpAny_pure (wpAny_pure ?_)
    refine h s.heap _ false (Heap.SameBut.refl a s.heap) ?_
    unfold addK; rw [if_pos hm]
    exact ⟨o, es, ep, tb, ho, hex, hd, hel, hpm, hf, hled, hpl, hlen⟩
  | none =>
    rw [hr] at hfi
    have hm : k ∉ ks := fun q => by have := hpm.mem_iff.mpr q; simp at hfi; simp at this; obtain ⟨a', b', h1, h2⟩ := this; exact hfi a' b' h1 h2
    dsimp only
    have hgw : ∀ (b : Bool) {s₁ : Shared} {Q' : Unit → Shared → Prop}, Q' () s₁ → wpAny (model prog w) A (match b with | true => rule "set.scan.the-table-gave-way" | false => pure ()) Q' E s₁ :=
      fun b s₁ Q' hq => by cases b <;> first | exact wpAny_pure hq | exact wpAny_rule hq
    have hperm := layNew_perm tb es ((strKind prog w).hash k) (.str k t)
    have hfits := layNew_fits tb es ((strKind prog w).hash k) (.str k t)
    have hled1 := lay_led tb es ((strKind prog w).hash k) (.str k t)
    generalize hL : layNew tb es ((strKind prog w).hash k) (.str k t) = L at hperm hfits hled1 ⊢
    obtain ⟨es1, t1, wasDummy, gave⟩ := L
    dsimp only at hperm hfits hled1 ⊢
    rw [Array.toList_push] at hperm
    have hel1 : ElemsOf (strKind prog w) es1.toList := (hel.push hkey hsc).perm hperm
    have hpm1 : (es1.toList.map fun e => strOf e.2).Perm (ks ++ [k]) := by
      refine (hperm.map _).trans ?_
      rw [List.map_append]
      exact hpm.append (List.Perm.refl _)
    have hsz1 : es1.size = ks.length + 1 := by have := hpm1.length_eq; simpa using this
    have hadd : addK ks k = ks ++ [k] := by unfold addK; rw [if_neg hm]
    have hz1 : es1.size ≤ sizeLine := by rw [hsz1]; have : sizeLine = 16777216 := rfl; omega
    refine wpAny_bind (hgw _ ?_)
    have store : ∀ (t2 : SetTable), t2.fits es1.size = true → t2.led = (!byT w) → t2.plain = false →
        wpAny (model prog w) A (do
          storeSet a es1 t2
          if (!wasDummy && t2.tooFull) = true then do
              (match (relayAll t2 es1 (SetTable.grown es1.size)).2.2 with | true => rule "set.scan.the-table-gave-way" | false => pure ())
              storeSet a (relayAll t2 es1 (SetTable.grown es1.size)).1 (relayAll t2 es1 (SetTable.grown es1.size)).2.1
              pure (some true)
            else pure (some true)) (fun r s' => wpAny (model prog w) A (match r with | some added => pure added | none => setAddHashedIn a (.str k t) ((strKind prog w).hash k) 99999) Q E s') E { s with toks := s.toks + 1 } := by
      intro t2 hf2 hl2 hp2
      refine wpAny_bind (wpAny_storeSet_of (s := { s with toks := s.toks + 1 }) ho hd ?_ hz1)
      have hg : (s.heap.update a (Obj.putSet es1 t2)).get? a = some { o with data := .set es1 (ep + 1) t2 } := by
        have := Heap.get?_update_self (Obj.putSet es1 t2) ho (by rw [putSet_of es1 t2 hd]; rfl)
        rw [putSet_of es1 t2 hd] at this; exact this
      have hsb1 := Heap.SameBut.update s.heap a (Obj.putSet es1 t2)
      split
      · have hp := relayAll_perm t2 es1 (SetTable.grown es1.size)
        have hfr := relayAll_fits t2 es1 (SetTable.grown es1.size)
        have hlr := relay_led t2 es1 (SetTable.grown es1.size)
        generalize hRl : relayAll t2 es1 (SetTable.grown es1.size) = Rl at hp hfr hlr ⊢
        obtain ⟨es2, t3, gave2⟩ := Rl
        dsimp only at hp hfr hlr ⊢
        have hsz2 : es2.size = es1.size := by rw [← Array.length_toList, hp.length_eq, Array.length_toList]
        refine wpAny_bind (hgw _ ?_)
        refine wpAny_bind (wpAny_storeSet_of (s := { s with heap := s.heap.update a (Obj.putSet es1 t2), toks := s.toks + 1 }) hg rfl ?_ (by rw [hsz2]; exact hz1))
        have hg2 : ((s.heap.update a (Obj.putSet es1 t2)).update a (Obj.putSet es2 t3)).get? a = some { o with data := .set es2 (ep + 1 + 1) t3 } := by
          have := Heap.get?_update_self (Obj.putSet es2 t3) hg rfl
          exact this
        refine wpAny_pure (wpAny_pure (h _ _ _ (hsb1.trans (Heap.SameBut.update _ a _)) ?_))
        rw [hadd]
        exact ⟨_, es2, _, t3, hg2, hex, rfl, hel1.perm hp, (hp.map _).trans hpm1, hfr, hlr.1.trans hl2, fun _ => hlr.2 hp2, by simp; omega⟩
      · refine wpAny_pure (wpAny_pure (h _ _ _ hsb1 ?_))
        rw [hadd]
        exact ⟨_, es1, _, t2, hg, hex, rfl, hel1, hpm1, hf2, hl2, fun _ => hp2, by simp; omega⟩
    split
    · refine wpAny_bind ?_
      rw [hashByValue_scannable 8 hsc]
      refine wpAny_pure ?_
      simp only [plainKind, Bool.false_eq_true, ↓reduceIte]
      exact store _ (SetTable.fits_plain_off hfits) (hled1.trans hled) rfl
    · rename_i hnp
      refine wpAny_bind (wpAny_pure ?_)
      simp only [↓reduceIte]
      exact store t1 hfits (hled1.trans hled) (by simpa using hnp)
end
end Mine
end

-- part MSet2
section

open PySem PySem.W PyProof.Rows
set_option linter.unusedVariables false
set_option maxRecDepth 100000
namespace Mine

noncomputable def metK (ss : List Str) : List Str := ss.foldl addK []
theorem addK_nodup {ks : List Str} (h : ks.Nodup) (k : Str) : (addK ks k).Nodup := by
  unfold addK
  split
  · exact h
  · rename_i hm
    rw [List.nodup_append]
    exact ⟨h, by simp, fun a ha b hb => by simp at hb; subst hb; exact fun q => hm (q ▸ ha)⟩
theorem addK_mem (ks : List Str) (k x : Str) : x ∈ addK ks k ↔ x ∈ ks ∨ x = k := by
  unfold addK
  split
  · rename_i hm
    exact ⟨.inl, fun h => h.elim id fun e => e ▸ hm⟩
  · simp
theorem addK_len (ks : List Str) (k : Str) : (addK ks k).length ≤ ks.length + 1 := by
  unfold addK
  split <;> simp
theorem foldK_nodup : ∀ (ss ks : List Str), ks.Nodup → (ss.foldl addK ks).Nodup
  | [], _, h => h
  | s :: ss, ks, h => foldK_nodup ss _ (addK_nodup h s)
theorem foldK_mem : ∀ (ss ks : List Str) (x : Str), x ∈ ss.foldl addK ks ↔ x ∈ ks ∨ x ∈ ss
  | [], ks, x => by simp
  | s :: ss, ks, x => by rw [List.foldl_cons, foldK_mem ss _ x, addK_mem]; simp [or_assoc]
theorem foldK_len : ∀ (ss ks : List Str), (ss.foldl addK ks).length ≤ ks.length + ss.length
  | [], ks => by simp
  | s :: ss, ks => by rw [List.foldl_cons]; have h1 := foldK_len ss (addK ks s); have h2 := addK_len ks s; simp only [List.length_cons]; omega

section
variable {prog : Program} {w : World} {A : Around} {E : Value → Shared → Prop} {R : Result → Shared → Prop} {s : Shared}

theorem SetL.keep {h h' : Heap} {a : Addr} {ks : List Str} (x : SetL prog w h a ks) (k : ∀ o, h.get? a = some o → h'.get? a = some o) : SetL prog w h' a ks :=
  let ⟨o, es, ep, t, ho, r⟩ := x; ⟨o, es, ep, t, k o ho, r⟩

/-- the loop that puts a list's texts into a set -/
theorem set_loop (hh : A.handled = none) (S I l : Addr) (vs : List Value) (ss : List Str) (hvs : StrsAre vs ss) (hSI : S ≠ I) (hlI : l ≠ I) (hSl : S ≠ l) :
    ∀ (j i : Nat) (ks : List Str) (s : Shared), vs.length - i = j → i ≤ vs.length → s.heap.IsListIter I l i → s.heap.IsList l vs.toArray → SetL prog w s.heap S ks → ks.length + j + 1 < 1000 →
      (∀ h' tk, (∀ b o, b ≠ S → b ≠ I → s.heap.get? b = some o → h'.get? b = some o) → SetL prog w h' S ((ss.drop i).foldl addK ks) → R (.ok (.ret .none)) { s with heap := h', toks := tk }) →
      codeAny (model prog w) A (.builtin "set.update.loop" ⟨[.ref S, .ref I], []⟩) R s := by
  have hlen : vs.length = ss.length := by rw [← hvs.strs, List.length_map]
  intro j
  induction j with
  | zero =>
    intro i ks s hj hi hit hl hS hz hR
    have hi' : i = vs.length := by omega
    subst hi'
    refine codeAny_builtin F.entry_set_update_loop ?_
    rw [Around.under_plainId F.plain_set_update_loop _]
    show wpAny _ A.in1 (pyNext (.ref I) >>= _) _ _ s
    refine wpAny_bind (wpAny_pyNext_list_end (by simp [hh]) hit hl (by simp) fun h' he => ?_)
    show wpAny _ A.in1 (ret Value.none) _ _ _
    refine wpAny_pure (hR h' s.toks (fun b o hb1 hb2 e => he b o hb2 e) ?_)
    rw [List.drop_of_length_le (by omega)]
    exact hS.keep fun o e => he S o hSI e
  | succ j ih =>
    intro i ks s hj hi hit hl hS hz hR
    have hlt : i < vs.length := by omega
    have hlt' : i < ss.length := by omega
    refine codeAny_builtin F.entry_set_update_loop ?_
    rw [Around.under_plainId F.plain_set_update_loop _]
    show wpAny _ A.in1 (pyNext (.ref I) >>= _) _ _ s
    obtain ⟨x, t, ex⟩ := hvs.all vs[i] (List.getElem_mem _)
    have hx : ss[i] = x := by
      have : ss[i]? = some x := by rw [← hvs.strs, List.getElem?_map, List.getElem?_eq_getElem hlt, ex]; rfl
      rw [List.getElem?_eq_getElem hlt'] at this; exact Option.some.inj this
    refine wpAny_bind (wpAny_pyNext_list_item hit hl (x := vs[i]) (by simp [hlt]) fun h1 hit1 hs1 => ?_)
    rw [ex]
    show wpAny _ A.in1 (holding [Value.str x t] (setAdd S (.str x t)) >>= _) _ _ _
    refine wpAny_bind (wpAny_holding ?_)
    refine setAdd_L (s := { s with heap := h1 }) (hS.keep fun o e => hs1.extBut S o hSI e) (by omega) fun h2 tk b hsb hS2 => ?_
    have hkeep : ∀ b o, b ≠ S → b ≠ I → s.heap.get? b = some o → h2.get? b = some o := fun b o hb1 hb2 e => by
      rw [hsb.2 b hb1]; exact hs1.extBut b o hb2 e
    refine wpAny_pure ⟨plainId_quiet F.plain_set_update_loop _, ih (i + 1) (addK ks x) _ (by omega) hlt (hit1.at fun o e => by rw [hsb.2 I (Ne.symm hSI)]; exact e) (hl.at fun o e => hkeep l o (Ne.symm hSl) hlI e) hS2 (by have := addK_len ks x; omega) fun h' tk' hk' hS' => ?_⟩
    refine hR h' tk' (fun b o hb1 hb2 e => hk' b o hb1 hb2 (hkeep b o hb1 hb2 e)) ?_
    rw [List.drop_eq_getElem_cons hlt', List.foldl_cons, hx]
    exact hS'

theorem set_new_code (a : Value) {Q₁ : Value → Shared → Prop}
    (h : Q₁ (.ref s.heap.objs.size) { s with heap := s.heap.push { cls := .type "set", dict := none, data := .set #[] 0 (.fresh 0 0 (!byT w)) } }) :
    codeAny (model prog w) A (.call (.builtin "set.__new__") ⟨[.type "set", a], []⟩) (wants Q₁ E) s := by
  refine codeAny_of_tree ?_
  show wpAny _ A.in1 (do checkBuiltinCall "set.__new__" ⟨[.type "set", a], []⟩; again (.builtin "set.__new__" ⟨[.type "set", a], []⟩)) _ _ s
  refine wpAny_bind (wpAny_of_eq (F.newCall_set_1 a) (wpAny_pure ⟨plainId_quiet F.plain_set_new _, codeAny_builtin F.entry_set_new ?_⟩))
  rw [Around.under_plainId F.plain_set_new _]
  unfold Builtin.«set.__new__» Builtin.Frozenset.newClass
  have hsub := sub_set_self
  obtain ⟨hp, g, d, tk, os⟩ := s
  dsimp only
  wp_walk
  refine wpAny_askSetting (wpAny_pure ?_)
  dsimp only
  simp only [newObj]
  refine wpAny_bind (wpAny_alloc (wpAny_pure ?_))
  exact wpAny_pure h

theorem fresh_L {h : Heap} {a : Addr} (ho : h.get? a = some { cls := .type "set", dict := none, data := .set #[] 0 (.fresh 0 0 (!byT w)) }) : SetL prog w h a [] :=
  ⟨_, #[], 0, _, ho, ⟨rfl, rfl, rfl⟩, rfl, fun e he => by simp at he, by simp, by rfl, rfl, fun h => absurd h (by simp), by simp⟩

set_option maxHeartbeats 3200000 in
/-- set(l) of a list of texts -/
theorem call_set_strs {l : Addr} {vs : List Value} {ss : List Str} {Q : Value → Shared → Prop} (hh : A.handled = none) (hl : s.heap.IsList l vs.toArray) (hvs : StrsAre vs ss) (hz : vs.length + 1 < 1000)
    (h : ∀ (h' : Heap) (tk : Nat), SetL prog w h' s.heap.objs.size (metK ss) → (∀ b o, s.heap.get? b = some o → h'.get? b = some o) → Q (.ref s.heap.objs.size) { s with heap := h', toks := tk }) :
    wpAny (model prog w) A (call (.type "set") [.ref l]) Q E s := by
  obtain ⟨c, tl, hmro⟩ := F.called_set.mro
  have hmade := F.called_set.made
  have hsub := F.called_set.sub
  refine wpAny_call (codeAny_of_tree ?_)
  show wpAny _ _ (callAny (.type "set") _) _ _ _
  refine wpAny_pure ⟨Code.quiet_builtin _ (by decide +kernel), codeAny_builtin F.entry_type_call ?_⟩
  rw [Around.under_plain (weight_type_call_type "set" [.ref l] []) rfl]
  have h1 := F.called_set.notType
  have h2 := F.called_set.canCreate
  have hct := F.typeCall_set_1 (.ref l)
  repeat (any_goals (first | assumption | wp_step))
  refine codeAny_mono (set_new_code (.ref l) (E := E) (Q₁ := fun obj s₁ => obj = .ref s.heap.objs.size ∧ s₁ = { s with heap := s.heap.push { cls := .type "set", dict := none, data := .set #[] 0 (.fresh 0 0 (!byT w)) } }) ⟨rfl, rfl⟩) fun r s₁ hr => ?_
  cases r with
  | error e => exact hr
  | ok fl =>
    cases fl with
    | ret obj =>
      obtain ⟨rfl, rfl⟩ := hr
      generalize hso : ({ cls := .type "set", dict := none, data := .set #[] 0 (.fresh 0 0 (!byT w)) } : Obj) = so
      have hS : (s.heap.push so).get? s.heap.objs.size = some so := Heap.get?_push_size _ (by rw [← hso]; rfl)
      have hT : Shared.TypeIs { s with heap := s.heap.push so } (.ref s.heap.objs.size) "set" := ⟨_, hS, by rw [← hso]⟩
      have hli := F.called_set.init.lookup
      have hbi := F.called_set.init.bind (.ref s.heap.objs.size)
      repeat (any_goals (first | assumption | wp_step))
      refine codeAny_mono (codeAny_call_builtin (R := wants (fun r s₂ => r = .none ∧ ∃ h' tk, s₂ = { s with heap := h', toks := tk } ∧ SetL prog w h' s.heap.objs.size (metK ss) ∧
          (∀ b o, s.heap.get? b = some o → h'.get? b = some o)) E) F.called_set.init.plain F.entry_set_init (check_set_init_1 hT ?_)) fun r₂ s₂ hr₂ => ?_
      · obtain ⟨ol, hol, hcl, nl, hdl⟩ := hl
        obtain ⟨ocls, odict, odata, oslots⟩ := ol
        simp only at hcl hdl
        subst hcl; subst hdl
        have hlS : l < s.heap.objs.size := Heap.lt_size hol
        have hol' : (s.heap.push so).get? l = some { cls := .type "list", dict := odict, data := .seq vs.toArray nl, slots := oslots } := Heap.get?_push_of_some _ hol
        have hsls := F.sub_list_set
        have hslf := F.sub_list_frozenset
        have hne : (Value.type "list" == Value.type "dict") = false := by decide
        have hl1 : (s.heap.push so).IsList l vs.toArray := ⟨_, hol', rfl, nl, rfl⟩
        unfold Builtin.«set.__init__» noKeywords Builtin.Frozenset.updateFrom
        generalize hPI : pyIter = PI
        subst hso
        wp_walk
        subst hPI
        refine wpAny_pyIter_list hl1 ?_
        refine wpAny_bind (wpAny_runValue ?_)
        have hsz : (s.heap.push { cls := .type "set", dict := none, data := .set #[] 0 (.fresh 0 0 (!byT w)) }).objs.size = s.heap.objs.size + 1 := Heap.size_push ..
        refine set_loop (ss := ss) (by simp [hh]) s.heap.objs.size _ l vs hvs (by rw [hsz]; exact Nat.ne_of_lt (Nat.lt_succ_self _)) (by rw [hsz]; exact Nat.ne_of_lt (Nat.lt_succ_of_lt hlS)) (Nat.ne_of_gt hlS) (vs.length - 0) 0 [] _ rfl (Nat.zero_le _)
          ⟨_, Heap.get?_push_size _ rfl, rfl, rfl⟩ (hl1.push _) (fresh_L (Heap.get?_push_of_some _ hS)) (by simp; omega) fun h' tk hk' hS' => ?_
        show wpAny _ _ _ _ _ _
        refine wpAny_pure ?_
        show wpAny _ _ (ret Value.none) _ _ _
        refine wpAny_pure ⟨rfl, h', tk, rfl, by rwa [List.drop_zero] at hS', fun b o e => ?_⟩
        have hb := Heap.lt_size e
        exact hk' b o (Nat.ne_of_lt hb) (by rw [hsz]; exact Nat.ne_of_lt (Nat.lt_succ_of_lt hb)) (Heap.get?_push_of_some _ (Heap.get?_push_of_some _ e))
      · cases r₂ with
        | error e => exact hr₂
        | ok fl₂ =>
          cases fl₂ with
          | ret r =>
            obtain ⟨rfl, h', tk, rfl, hS', hk'⟩ := hr₂
            repeat (any_goals (first | assumption | wp_step))
            exact h _ _ hS' hk'
          | _ => exact hr₂.elim
    | _ => exact hr.elim
end
end Mine
end

-- part MSet3
section

open PySem PySem.W PyProof.Rows
set_option linter.unusedVariables false
set_option maxRecDepth 100000
namespace Mine

theorem slot_si_next : Slot "set_iterator" "__next__" "set_iterator.__next__" :=
  .of (owner := "set_iterator") (n := "__next__") (by rw [typeLookup_type, builtinLookup_eq_fast]; kernel_rfl) (by decide +kernel) (by decide +kernel) (by decide +kernel)
    (by first | exact .inl (by decide +kernel) | exact .inr (by decide +kernel)) (by rw [isSubtype_type]; kernel_rfl)
theorem entry_si_next : entryFor table "set_iterator.__next__" = some Builtin.«set_iterator.__next__» := entryFor_of_tree (by kernel_rfl)
theorem owner_si : Manifest.owners.lookup (String.ofList ['r', 'o', 't', 'a', 'r', 'e', 't', 'i', '_', 't', 'e', 's'].reverse) = some Manifest.sig_set_iterator := by kernel_rfl
theorem args_si_next (a : Value) : argsOk "set_iterator.__next__" ⟨[a], []⟩ := by
  unfold argsOk; rw [signature?_of (id := "set_iterator.__next__") (n := ['_', '_', 't', 'x', 'e', 'n', '_', '_']) (o := ['r', 'o', 't', 'a', 'r', 'e', 't', 'i', '_', 't', 'e', 's']) (by kernel_rfl) owner_si]; kernel_rfl
theorem entry_set_iter' : entryFor table "set.__iter__" = some Builtin.«frozenset.__iter__» :=
  entryFor_alias (id' := "frozenset.__iter__") (by kernel_rfl) rfl (by decide +kernel) (by kernel_rfl)

theorem erase_perm {α : Type} {l : List α} {i : Nat} (h : i < l.length) : (l[i] :: l.eraseIdx i).Perm l := by
  rw [List.eraseIdx_eq_take_drop_succ]
  have e : l = l.take i ++ l[i] :: l.drop (i + 1) := by rw [← List.drop_eq_getElem_cons h, List.take_append_drop]
  exact (List.perm_middle.symm).trans (List.Perm.of_eq e.symm)
theorem pick_go_perm {α : Type} (next : Nat → Nat) : ∀ (fuel k : Nat) (left : List α) (out : Array α), left.length ≤ fuel → (pickOrder.go next fuel k left out).toList.Perm (out.toList ++ left)
  | 0, k, left, out, h => by
    have : left = [] := List.length_eq_zero_iff.mp (by omega)
    subst this; simp [pickOrder.go]
  | fuel + 1, k, [], out, h => by simp [pickOrder.go]
  | fuel + 1, k, x :: r, out, h => by
    unfold pickOrder.go
    have hlt : next k % (x :: r).length < (x :: r).length := Nat.mod_lt _ (by simp)
    rw [List.getElem?_eq_getElem hlt]
    dsimp only
    refine (pick_go_perm next fuel (k + 1) _ _ ?_).trans ?_
    · rw [List.length_eraseIdx_of_lt hlt]; simp at h ⊢; omega
    · rw [Array.toList_push, List.append_assoc]
      refine List.Perm.append_left _ ?_
      have := erase_perm hlt
      exact this
theorem pick_perm {α : Type} (next : Nat → Nat) (xs : Array α) : (pickOrder next xs).toList.Perm xs.toList := by
  have := pick_go_perm next xs.size 0 xs.toList #[] (by simp)
  simpa [pickOrder] using this

section
variable {prog : Program} {w : World} {A : Around} {E : Value → Shared → Prop} {s : Shared}

theorem wpAny_choose {n : Nat} {Q : Nat → Shared → Prop} {src : Source} (hn : 0 < n) (h : ∀ i d, i < n → Q i { s with drawn := d }) : wpAny (model prog w) A (choose src n) Q E s := fun Γ p _ => by
  unfold choose
  rw [Sem.wp_choose]
  exact ⟨by omega, h _ _ (Nat.mod_lt _ hn)⟩

theorem wpAny_drawOrder {α : Type} : ∀ (n : Nat) (xs : List α) (s : Shared) (Q : List α → Shared → Prop), xs.length ≤ n → (∀ ys d, ys.Perm xs → Q ys { s with drawn := d }) → wpAny (model prog w) A (drawOrder n xs) Q E s
  | 0, xs, s, Q, hn, h => by
    have : xs = [] := List.length_eq_zero_iff.mp (by omega)
    subst this
    unfold drawOrder
    exact wpAny_pure (h [] s.drawn (List.Perm.refl _))
  | n + 1, [], s, Q, hn, h => by
    unfold drawOrder
    exact wpAny_pure (h [] s.drawn (List.Perm.refl _))
  | n + 1, x :: r, s, Q, hn, h => by
    unfold drawOrder
    refine wpAny_bind (wpAny_choose (by simp) fun i d hi => ?_)
    rw [List.getElem?_eq_getElem hi]
    dsimp only
    refine wpAny_bind (wpAny_drawOrder n _ _ _ (by rw [List.length_eraseIdx_of_lt hi]; simp at hn ⊢; omega) fun ys d' hp => ?_)
    refine wpAny_pure (h _ d' ?_)
    exact (List.Perm.cons _ hp).trans (erase_perm hi)

noncomputable abbrev siO (first : Value) (i : Nat) (a : Addr) (n ep : Nat) : Obj := { cls := .type "set_iterator", data := .fields #[first, .int i 0, .ref a, .int n 0, .int ep 0] }

/-- a set's iterator before its item i -/
structure SI (w : World) (h : Heap) (it a : Addr) (es : Array (Int × Value)) (ep : Nat) (t : SetTable) (vals : List Value) (i : Nat) : Prop where
  set : ∃ o, h.get? a = some o ∧ o.data = .set es ep t
  fits : t.fits es.size = true
  led : t.led = (!byT w)
  perm : vals.Perm (es.toList.map (·.2))
  obj : ∃ first, h.get? it = some (siO first i a es.size ep) ∧
    ((byT w = true ∧ first = .int 0 0 ∧ vals = (pickOrder (w.params.setOrder a ep) es).toList.map (·.2)) ∨
     (byT w = false ∧ ∃ (p : Addr) (ord : List Nat), first = .ref p ∧ p ≠ it ∧ h.get? p = some (tupO (ord.map fun (j : Nat) => rawInt (j : Int)) 0) ∧ ord.Perm (List.range es.size) ∧ vals = ord.filterMap fun j => es[j]?.map (·.2)) ∨
     (byT w = false ∧ es.size ≤ 1 ∧ (∃ slot : Nat, first = .int slot 0 ∧ ((i = 0 ∧ slot = 0) ∨ (0 < i ∧ ∃ j, t.place[0]? = some j ∧ slot = j + 1))) ∧ vals = es.toList.map (·.2)))

theorem ord_vals (es : Array (Int × Value)) : ∀ (ord : List Nat), (∀ j ∈ ord, j < es.size) → (ord.filterMap fun j => es[j]?.map (·.2)) = ord.map fun j => ((es[j]?).map (·.2)).getD .none
  | [], _ => rfl
  | j :: r, h => by
    have hj := h j (List.mem_cons_self ..)
    rw [List.filterMap_cons, List.map_cons, ord_vals es r fun x hx => h x (List.mem_cons_of_mem _ hx), Array.getElem?_eq_getElem hj]
    rfl
theorem ord_perm (es : Array (Int × Value)) {ord : List Nat} (h : ord.Perm (List.range es.size)) : (ord.filterMap fun j => es[j]?.map (·.2)).Perm (es.toList.map (·.2)) := by
  refine (h.filterMap _).trans ?_
  have := filterMap_getElem?_range es
  rw [← this, List.map_filterMap]

theorem wpAny_setsByText {Q : Bool → Shared → Prop} (h : Q (byT w) s) : wpAny (model prog w) A setsByText Q E s := by
  unfold setsByText
  exact wpAny_bind (wpAny_askSetting (wpAny_pure h))

theorem pyIter_set {a : Addr} {o : Obj} {es : Array (Int × Value)} {ep : Nat} {t : SetTable} {Q : Value → Shared → Prop} (ho : s.heap.get? a = some o) (hex : o.ExactSet) (hd : o.data = .set es ep t) (hf : t.fits es.size = true)
    (hl : t.led = (!byT w)) (hp : 0 < es.size → t.plain = false) (hz : es.size ≤ 1000)
    (hQ : ∀ it h' d vals, s.heap.get? it = none → (∀ b o, s.heap.get? b = some o → h'.get? b = some o) → SI w h' it a es ep t vals 0 → Q (.ref it) { s with heap := h', drawn := d }) :
    wpAny (model prog w) A (pyIter (.ref a)) Q E s := by
  have hT : s.TypeIs (.ref a) "set" := ⟨o, ho, hex.1⟩
  refine wpAny_pyIter_slot hT F.slot_set_iter (wpAny_call_entry F.slot_set_iter hT entry_set_iter' ?_ (F.args_set_iter_1 _))
  unfold Builtin.«frozenset.__iter__» Builtin.Frozenset.slot0 slotArgs
  simp only [List.isEmpty_nil, Bool.not_true, Bool.false_eq_true, ↓reduceIte, bind_assoc, List.length_nil, bne_self_eq_false]
  unfold Builtin.Frozenset.addrOf Builtin.Frozenset.sizeOf
  refine wpAny_bind (wpAny_pure ?_)
  try dsimp only
  refine wpAny_bind (wpAny_pure ?_)
  refine wpAny_bind (wpAny_bind (wpAny_setEntries_of ho hd hf (wpAny_pure ?_)))
  unfold setDrawn
  refine wpAny_bind (wpAny_bind (wpAny_setState_of ho hd hf ?_))
  dsimp only
  refine wpAny_bind (wpAny_setsByText (wpAny_pure ?_))
  cases hb : byT w with
  | true =>
    simp only [Bool.not_true, Bool.false_and, Bool.false_eq_true, ↓reduceIte]
    refine wpAny_bind (wpAny_pure ?_)
    refine wpAny_bind (wpAny_setEpoch_of ho hd hf ?_)
    unfold newFields
    refine wpAny_bind (wpAny_newObj_type (wpAny_pure ⟨_, rfl, "set_iterator", _, ⟨_, Heap.get?_push_size _ rfl, rfl⟩, slot_si_next.lookup, ?_⟩))
    refine hQ s.heap.objs.size (s.heap.push (siO (.int 0 0) 0 a es.size ep)) s.drawn _ (get?_none_of_size (Nat.le_refl _)) (fun _ _ e => Heap.get?_push_of_some _ e) ⟨⟨o, Heap.get?_push_of_some _ ho, hd⟩, hf, hl, ?_, _, Heap.get?_push_size _ rfl, .inl ⟨hb, rfl, rfl⟩⟩
    exact (pick_perm _ _).map _
  | false =>
    simp only [Bool.not_false, Bool.true_and]
    refine wpAny_ite_split (fun hdr => ?_) (fun hdr => ?_)
    · refine wpAny_bind (wpAny_drawOrder es.size (List.range es.size) s _ (by simp) fun ord d hperm => ?_)
      have hlen : ord.length = es.size := by rw [hperm.length_eq]; simp
      refine wpAny_bind (wpAny_newTuple ?_ (by rw [List.length_map, hlen]; have : sizeLine = 16777216 := rfl; omega))
      refine wpAny_bind (wpAny_setEpoch_of (s := { s with heap := s.heap.push _, drawn := d }) (Heap.get?_push_of_some _ ho) hd hf ?_)
      unfold newFields
      refine wpAny_bind (wpAny_newObj_type (wpAny_pure ⟨_, rfl, "set_iterator", _, ⟨_, Heap.get?_push_size _ rfl, rfl⟩, slot_si_next.lookup, ?_⟩))
      let hp1 := s.heap.push (tupO (ord.map fun (j : Nat) => rawInt (j : Int)) 0)
      have hsz : hp1.objs.size = s.heap.objs.size + 1 := Heap.size_push ..
      refine hQ hp1.objs.size (hp1.push (siO (.ref s.heap.objs.size) 0 a es.size ep)) d _ (get?_none_of_size (by rw [hsz]; exact Nat.le_succ _)) (fun _ _ e => Heap.get?_push_of_some _ (Heap.get?_push_of_some _ e))
        ⟨⟨o, Heap.get?_push_of_some _ (Heap.get?_push_of_some _ ho), hd⟩, hf, hl, ord_perm es hperm, _, Heap.get?_push_size _ rfl, .inr (.inl ⟨hb, _, ord, rfl, ?_, Heap.get?_push_of_some _ (Heap.get?_push_size _ rfl), hperm, rfl⟩)⟩
      rw [hsz]; exact Nat.ne_of_lt (Nat.lt_succ_self _)
    · have hdr' : ¬ (!t.plain && decide (es.size > 1)) = true := hdr
      refine wpAny_bind (wpAny_pure ?_)
      refine wpAny_bind (wpAny_setEpoch_of ho hd hf ?_)
      unfold newFields
      refine wpAny_bind (wpAny_newObj_type (wpAny_pure ⟨_, rfl, "set_iterator", _, ⟨_, Heap.get?_push_size _ rfl, rfl⟩, slot_si_next.lookup, ?_⟩))
      refine hQ s.heap.objs.size (s.heap.push (siO (.int 0 0) 0 a es.size ep)) s.drawn _ (get?_none_of_size (Nat.le_refl _)) (fun _ _ e => Heap.get?_push_of_some _ e) ⟨⟨o, Heap.get?_push_of_some _ ho, hd⟩, hf, hl, List.Perm.refl _, _, Heap.get?_push_size _ rfl, .inr (.inr ⟨hb, ?_, ⟨0, rfl, .inl ⟨rfl, rfl⟩⟩, rfl⟩)⟩
      rcases Nat.lt_or_ge 1 es.size with h1 | h1
      · exact absurd (by rw [hp (by omega)]; simp; exact h1) hdr'
      · exact h1

theorem perm_len {vals : List Value} {es : Array (Int × Value)} (h : vals.Perm (es.toList.map (·.2))) : vals.length = es.size := by rw [h.length_eq]; simp

theorem below_one (j slot : Nat) : SetTable.below #[j] slot = if j < slot then 1 else 0 := by
  simp only [SetTable.below]
  by_cases h : j < slot <;> simp [h, SetTable.below.go]

theorem si_upd {h : Heap} {it a : Addr} {first first' : Value} {i i' n ep : Nat} {f : Array Value → Array Value} (ho : h.get? it = some (siO first i a n ep))
    (hf : f #[first, .int i 0, .ref a, .int n 0, .int ep 0] = #[first', .int i' 0, .ref a, .int n 0, .int ep 0]) : (h.update it (Obj.mapFields f)).get? it = some (siO first' i' a n ep) := by
  have := Heap.get?_update_self (Obj.mapFields f) ho rfl
  rw [this]
  simp only [Obj.mapFields, hf]

/-- the next item of a set's iterator -/
theorem si_item {it a : Addr} {es : Array (Int × Value)} {ep : Nat} {t : SetTable} {vals : List Value} {i : Nat} {x : Value} {Q : Option Value → Shared → Prop} (H : SI w s.heap it a es ep t vals i) (hx : vals[i]? = some x) (hia : a ≠ it)
    (hQ : ∀ h', Heap.SameBut it s.heap h' → SI w h' it a es ep t vals (i + 1) → Q (some x) { s with heap := h' }) : wpAny (model prog w) A (pyNext (.ref it)) Q E s := by
  obtain ⟨⟨o, ho, hd⟩, hf, hl, hperm, first, hit, hmode⟩ := H
  have hT : s.TypeIs (.ref it) "set_iterator" := ⟨_, hit, rfl⟩
  have hlt : i < es.size := by
    rw [← perm_len hperm]
    rcases Nat.lt_or_ge i vals.length with h | h
    · exact h
    · rw [List.getElem?_eq_none h] at hx; cases hx
  unfold pyNext
  refine wpAny_bind (wpAny_attempt (wpAny_callSpecial?_slot (name := Str.ofString "__next__") hT slot_si_next
    (wpAny_call_entry slot_si_next hT entry_si_next ?_ (args_si_next _))))
  refine wpAny_bind (m := slotArgs "__next__" 0 _) (wpAny_pure ?_)
  refine wpAny_bind (wpAny_fieldsOf hit rfl ?_)
  dsimp only
  refine wpAny_bind (wpAny_setEntries_of ho hd hf ?_)
  rw [if_neg (by simp)]
  rcases hmode with ⟨hb, rfl, rfl⟩ | ⟨hb, p, ord, rfl, hpi, hp, hord, rfl⟩ | ⟨hb, hsm, ⟨slot, rfl, hslot⟩, rfl⟩
  · dsimp only
    unfold setNext setWalk
    refine wpAny_bind (wpAny_bind (wpAny_setState_of ho hd hf ?_))
    dsimp only
    refine wpAny_bind (wpAny_setsByText ?_)
    rw [hb]
    simp only [↓reduceIte]
    rw [if_neg (by simp)]
    refine wpAny_bind (wpAny_bind (wpAny_setState_of ho hd hf ?_))
    dsimp only
    refine wpAny_bind (wpAny_setsByText ?_)
    rw [hb]
    simp only [↓reduceIte]
    refine wpAny_bind (wpAny_askSetting (wpAny_pure (wpAny_pure ?_)))
    have hx' : (pickOrder (w.params.setOrder a ep) es)[i]?.map (·.2) = some x := by
      rw [List.getElem?_map] at hx
      rw [← Array.getElem?_toList]; exact hx
    obtain ⟨e, he, rfl⟩ := Option.map_eq_some_iff.mp hx'
    rw [Int.toNat_natCast]
    erw [he]
    dsimp only [Option.map_some]
    refine wpAny_bind (wpAny_setField hit rfl (by simp) ?_)
    have h1 := si_upd (first' := .int 0 0) (i' := i) (f := (·.setIfInBounds 0 (rawInt ((0 : Int).toNat : Int)))) hit rfl
    refine wpAny_bind (wpAny_setField (s := { s with heap := _ }) h1 rfl (by simp) ?_)
    have h2 := si_upd (first' := .int 0 0) (i' := i + 1) (f := (·.setIfInBounds 1 (rawInt ((i : Int) + 1)))) h1 (by simp [rawInt])
    refine wpAny_pure ⟨_, rfl, ?_⟩
    refine wpAny_pure (hQ _ ((Heap.SameBut.update ..).trans (Heap.SameBut.update ..)) ⟨⟨o, ?_, hd⟩, hf, hl, hperm, _, h2, .inl ⟨hb, rfl, rfl⟩⟩)
    rw [Heap.get?_update_other _ _ hia.symm, Heap.get?_update_other _ _ hia.symm]; exact ho
  · dsimp only
    refine wpAny_bind (wpAny_seqItems hp rfl ?_)
    dsimp only
    have hilt : i < ord.length := by rw [hord.length_eq]; simpa using hlt
    have hoi : ord[i] < es.size := List.mem_range.mp (hord.mem_iff.mp (List.getElem_mem hilt))
    have hget : (ord.map fun (j : Nat) => rawInt (j : Int)).toArray[((i : Nat) : Int).toNat]? = some (rawInt (ord[i] : Int)) := by
      rw [Int.toNat_natCast]; simp [hilt]
    rw [hget]
    unfold rawInt
    dsimp only
    have hxe : x = (es[ord[i]]).2 := by
      rw [ord_vals es ord fun j hj => List.mem_range.mp (hord.mem_iff.mp hj), List.getElem?_map, List.getElem?_eq_getElem hilt] at hx
      simp only [Option.map_some, Array.getElem?_eq_getElem hoi, Option.getD_some, Option.some.injEq] at hx
      exact hx.symm
    unfold setNextDrawn
    refine wpAny_bind (wpAny_bind (wpAny_setState_of ho hd hf ?_))
    dsimp only
    rw [if_neg (by simp), Int.toNat_natCast, Array.getElem?_eq_getElem hoi]
    refine wpAny_bind (wpAny_pure (wpAny_pure ?_))
    refine wpAny_bind (wpAny_setField hit rfl (by simp) ?_)
    have h2 := si_upd (first' := .ref p) (i' := i + 1) (f := (·.setIfInBounds 1 (rawInt ((i : Int) + 1)))) hit (by simp [rawInt])
    refine wpAny_pure ⟨_, rfl, ?_⟩
    show wpAny _ _ (pure (some ((es[ord[i]]).2))) _ _ _
    rw [← hxe]
    refine wpAny_pure (hQ _ (Heap.SameBut.update ..) ⟨⟨o, ?_, hd⟩, hf, hl, hperm, _, h2, .inr (.inl ⟨hb, p, ord, rfl, hpi, ?_, hord, rfl⟩)⟩)
    · rw [Heap.get?_update_other _ _ hia.symm]; exact ho
    · rw [Heap.get?_update_other _ _ hpi.symm]; exact hp
  · dsimp only
    have hi0 : i = 0 := by omega
    have hs1 : es.size = 1 := by omega
    subst hi0
    obtain ⟨e, hes⟩ : ∃ e, es = #[e] := arr_one es hs1
    subst hes
    have hpl : ∃ j, t.place = #[j] := by
      simp only [SetTable.fits, Bool.and_eq_true, beq_iff_eq] at hf
      have := hf.1
      exact arr_one t.place this
    obtain ⟨j, hj⟩ := hpl
    have hslot0 : slot = 0 := by
      rcases hslot with ⟨_, h⟩ | ⟨h, _⟩
      · exact h
      · exact absurd h (by omega)
    subst hslot0
    unfold setNext
    refine wpAny_bind (wpAny_bind (wpAny_setState_of ho hd hf ?_))
    dsimp only
    refine wpAny_bind (wpAny_setsByText ?_)
    rw [hb]
    simp only [Bool.false_eq_true, ↓reduceIte]
    refine wpAny_ite_split (fun h => ?_) (fun _ => ?_)
    · have h' : (!t.plain && decide ((#[e] : Array (Int × Value)).size > 1)) = true := h
      simp at h'
    rw [hj, Int.toNat_natCast, below_one]
    have hled : t.led = true := by rw [hl, hb]; rfl
    refine wpAny_bind (m := if (!t.led && !(#[e] : Array (Int × Value)).isEmpty) = true then unsupported "set:maker-not-led" else pure ()) ?_
    rw [if_neg (by rw [hled]; simp)]
    refine wpAny_pure (wpAny_pure ?_)
    rw [if_neg (Nat.not_lt_zero _)]
    show wpAny _ _ (setField (.ref it) 0 (rawInt ((j + 1 : Nat) : Int)) >>= _) _ _ _
    have hxe : x = e.2 := by simpa using hx.symm
    refine wpAny_bind (wpAny_setField hit rfl (by simp) ?_)
    have h1 := si_upd (first' := .int ((j + 1 : Nat) : Int) 0) (i' := 0) (f := (·.setIfInBounds 0 (rawInt ((j + 1 : Nat) : Int)))) hit rfl
    refine wpAny_bind (wpAny_setField (s := { s with heap := _ }) h1 rfl (by simp) ?_)
    have h2 := si_upd (first' := .int ((j + 1 : Nat) : Int) 0) (i' := 0 + 1) (f := (·.setIfInBounds 1 (rawInt (((0 : Nat) : Int) + 1)))) h1 (by simp [rawInt])
    refine wpAny_pure ⟨_, rfl, ?_⟩
    rw [← hxe]
    refine wpAny_pure (hQ _ ((Heap.SameBut.update ..).trans (Heap.SameBut.update ..)) ⟨⟨o, ?_, hd⟩, hf, hl, hperm, _, h2, .inr (.inr ⟨hb, by simp, ⟨j + 1, rfl, .inr ⟨by omega, j, by rw [hj]; rfl, rfl⟩⟩, rfl⟩)⟩)
    rw [Heap.get?_update_other _ _ hia.symm, Heap.get?_update_other _ _ hia.symm]; exact ho

/-- a set's iterator at its end -/
theorem si_done {it a : Addr} {es : Array (Int × Value)} {ep : Nat} {t : SetTable} {vals : List Value} {Q : Option Value → Shared → Prop} (hh : A.handled = none) (H : SI w s.heap it a es ep t vals es.size)
    (hQ : ∀ h', Heap.ExtBut it s.heap h' → Q none { s with heap := h' }) : wpAny (model prog w) A (pyNext (.ref it)) Q E s := by
  obtain ⟨⟨o, ho, hd⟩, hf, hl, hperm, first, hit, hmode⟩ := H
  have hT : s.TypeIs (.ref it) "set_iterator" := ⟨_, hit, rfl⟩
  unfold pyNext
  refine wpAny_bind (wpAny_attempt (wpAny_callSpecial?_slot (name := Str.ofString "__next__") hT slot_si_next
    (wpAny_call_entry slot_si_next hT entry_si_next ?_ (args_si_next _))))
  refine wpAny_bind (m := slotArgs "__next__" 0 _) (wpAny_pure ?_)
  refine wpAny_bind (wpAny_fieldsOf hit rfl ?_)
  dsimp only
  refine wpAny_bind (wpAny_setEntries_of ho hd hf ?_)
  rw [if_neg (by simp)]
  have stop : ∀ (h : Heap) (first : Value), Heap.ExtBut it s.heap h → (∃ o fs, h.get? it = some o ∧ o.data = .fields fs ∧ 2 < fs.size) →
      wpAny (model prog w) A.in1 (do setField (.ref it) 2 .none; raiseNew (← newExc (.type "StopIteration") [])) (fun fin s' => ∃ v, fin = Fin.done (Flow.ret v) ∧ wpAny (model prog w) A (pure (some v)) Q E s')
        (fun e s' => wpAny (model prog w) A (do if (← isInstance e (.type "StopIteration")) = true then pure none else throw e) Q E s') { s with heap := h } := by
    intro h first hext ⟨o', fs, ho', hd', hfs⟩
    refine wpAny_bind (wpAny_setField ho' hd' hfs ?_)
    refine wpAny_bind ?_
    simp only [newExc, newTuple]
    refine wpAny_bind (wpAny_newObj_type ?_ (by size_fits))
    refine wpAny_bind (m := firstArgMember _ _) (wpAny_of_eq (a := Value.none) (by first | rfl | (simp only [firstArgMember]; rfl)) ?_)
    refine wpAny_newObj_type ?_ (by size_fits)
    simp only [raiseNew]
    refine wpAny_bind (wpAny_handled ?_)
    rw [show A.in1.handled = none from hh]
    refine wpAny_bind (wpAny_pure (wpAny_throw ?_))
    refine wpAny_bind (wpAny_isInstance (T := "StopIteration") (b := true) ⟨_, Heap.get?_push_size _ rfl, rfl⟩ isSubtype_stop ?_)
    refine wpAny_pure (hQ _ ?_)
    have hx : Heap.ExtBut it s.heap (h.update it (Obj.mapFields (·.setIfInBounds 2 Value.none))) := fun b o hb e => (Heap.SameBut.update h it _).extBut b o hb (hext b o hb e)
    exact Heap.ExtBut.push (Heap.ExtBut.push hx _) _
  rcases hmode with ⟨hb, rfl, rfl⟩ | ⟨hb, p, ord, rfl, hpi, hp, hord, rfl⟩ | ⟨hb, hsm, ⟨slot, rfl, hslot⟩, rfl⟩
  · dsimp only
    unfold setNext setWalk
    refine wpAny_bind (wpAny_bind (wpAny_setState_of ho hd hf ?_))
    dsimp only
    refine wpAny_bind (wpAny_setsByText ?_)
    rw [hb]
    simp only [↓reduceIte]
    rw [if_neg (by simp)]
    refine wpAny_bind (wpAny_bind (wpAny_setState_of ho hd hf ?_))
    dsimp only
    refine wpAny_bind (wpAny_setsByText ?_)
    rw [hb]
    simp only [↓reduceIte]
    refine wpAny_bind (wpAny_askSetting (wpAny_pure (wpAny_pure ?_)))
    have hsz : (pickOrder (w.params.setOrder a ep) es).size = es.size := by
      have := (pick_perm (w.params.setOrder a ep) es).length_eq; simpa using this
    rw [Int.toNat_natCast]
    erw [show (pickOrder (w.params.setOrder a ep) es)[es.size]? = none from Array.getElem?_eq_none (by omega)]
    exact stop s.heap (.int 0 0) (fun _ _ _ e => e) ⟨_, _, hit, rfl, by simp⟩
  · dsimp only
    refine wpAny_bind (wpAny_seqItems hp rfl ?_)
    dsimp only
    rw [Int.toNat_natCast, List.getElem?_toArray, List.getElem?_eq_none (by rw [List.length_map, hord.length_eq]; simp)]
    dsimp only
    refine wpAny_bind (wpAny_setField hit rfl (by simp) ?_)
    have h1 := si_upd (first' := .int 0 0) (i' := es.size) (f := (·.setIfInBounds 0 (rawInt 0))) hit rfl
    exact stop _ (.int 0 0) (Heap.SameBut.update ..).extBut ⟨_, _, h1, rfl, by simp⟩
  · dsimp only
    unfold setNext
    refine wpAny_bind (wpAny_bind (wpAny_setState_of ho hd hf ?_))
    dsimp only
    refine wpAny_bind (wpAny_setsByText ?_)
    rw [hb]
    simp only [Bool.false_eq_true, ↓reduceIte]
    refine wpAny_ite_split (fun h => ?_) (fun _ => ?_)
    · have h' : (!t.plain && decide (es.size > 1)) = true := h
      simp at h'
      omega
    have hled : t.led = true := by rw [hl, hb]; rfl
    refine wpAny_bind (m := if (!t.led && !es.isEmpty) = true then unsupported "set:maker-not-led" else pure ()) ?_
    rw [if_neg (by rw [hled]; simp)]
    refine wpAny_pure (wpAny_pure ?_)
    have hnone : es[SetTable.below t.place ((slot : Nat) : Int).toNat]? = none := by
      rw [Int.toNat_natCast]
      rcases hslot with ⟨h0, _⟩ | ⟨h0, j, hj, rfl⟩
      · rw [Array.getElem?_eq_none (by omega)]
      · have hpl : t.place = #[j] := by
          simp only [SetTable.fits, Bool.and_eq_true, beq_iff_eq] at hf
          have h1 := hf.1
          rcases hpp : t.place with ⟨l⟩
          rw [hpp] at h1 hj
          have h2 : l.length = 1 := by simp at h1; omega
          match l, h2 with
          | [j'], _ => simp at hj; rw [hj]
        rw [hpl, below_one, if_pos (Nat.lt_succ_self _), Array.getElem?_eq_none (by omega)]
    rw [hnone]
    exact stop s.heap (.int 0 0) (fun _ _ _ e => e) ⟨_, _, hit, rfl, by simp⟩
end
end Mine
end

-- part MSet4
section

open PySem PySem.W PyProof.Rows
set_option linter.unusedVariables false
set_option maxRecDepth 100000
namespace Mine

/-- sorted as texts -/
noncomputable def srt (ls : List (List Nat)) : List (List Nat) := ls.mergeSort fun a b => decide (a ≤ b)
theorem srt_perm (ls : List (List Nat)) : (srt ls).Perm ls := List.mergeSort_perm ls _
theorem srt_pw (ls : List (List Nat)) : (srt ls).Pairwise (· ≤ ·) := by
  have := List.pairwise_mergeSort (le := fun (a b : List Nat) => decide (a ≤ b)) (fun a b c h1 h2 => by
    simp only [decide_eq_true_eq] at *; exact List.le_trans h1 h2) (fun a b => by
    simp only [Bool.or_eq_true, decide_eq_true_eq]; exact List.le_total a b) ls
  exact this.imp fun h => by simpa using h
theorem srt_unique {l l' : List (List Nat)} (h : l.Pairwise (· ≤ ·)) (h' : l'.Pairwise (· ≤ ·)) (p : l.Perm l') : l = l' :=
  List.Perm.eq_of_pairwise (fun a b _ _ h1 h2 => List.le_antisymm h1 h2) h h' p
theorem rising_pw : ∀ (ls : List (List Nat)) (p : List Nat), risingS (S p) (ls.map S) = true → (p :: ls).Pairwise (· ≤ ·)
  | [], p, _ => by simp
  | x :: r, p, h => by
    rw [List.map_cons, risingS, Bool.and_eq_true] at h
    have ih := rising_pw r x h.2
    have h1 : p ≤ x := by
      have := h.1
      rw [ltCps_eq, S_toList, S_toList] at this
      simpa using this
    refine List.pairwise_cons.mpr ⟨fun y hy => ?_, ih⟩
    rcases List.mem_cons.mp hy with rfl | hy
    · exact h1
    · exact List.le_trans h1 (List.rel_of_pairwise_cons ih hy)
theorem sortedS_pw : ∀ (ls : List (List Nat)), sortedS (ls.map S) = true → ls.Pairwise (· ≤ ·)
  | [], _ => by simp
  | x :: r, h => rising_pw r x h
theorem S_cps (x : Str) : S x.cps.toList = x := by cases x; rfl
theorem map_S_of (ss : List Str) : ss = (ss.map fun x => x.cps.toList).map S := by
  rw [List.map_map]
  conv => lhs; rw [← List.map_id ss]
  exact List.map_congr_left fun x _ => (S_cps x).symm
theorem sorted_srt {ss : List Str} {ls : List (List Nat)} (h : sortedS ss = true) (p : ss.Perm (ls.map S)) : ss = (srt ls).map S := by
  rw [map_S_of ss] at h p ⊢
  have p' : (ss.map fun x => x.cps.toList).Perm ls := by
    have := p.map fun x : Str => x.cps.toList
    simpa [Function.comp_def, S_toList] using this
  rw [srt_unique (sortedS_pw _ h) (srt_pw ls) (p'.trans (srt_perm ls).symm)]

/-- one of each -/
noncomputable def dd (ls : List (List Nat)) : List (List Nat) := ls.foldl (fun ks k => if k ∈ ks then ks else ks ++ [k]) []
theorem addK_S (ks : List (List Nat)) (k : List Nat) : addK (ks.map S) (S k) = (if k ∈ ks then ks else ks ++ [k]).map S := by
  unfold addK
  have : S k ∈ ks.map S ↔ k ∈ ks := by
    rw [List.mem_map]
    exact ⟨fun ⟨y, hy, e⟩ => S_inj.mp e ▸ hy, fun h => ⟨k, h, rfl⟩⟩
  by_cases h : k ∈ ks
  · rw [if_pos (this.mpr h), if_pos h]
  · rw [if_neg (fun q => h (this.mp q)), if_neg h]; simp
theorem fold_S : ∀ (ls ks : List (List Nat)), (ls.map S).foldl addK (ks.map S) = (ls.foldl (fun ks k => if k ∈ ks then ks else ks ++ [k]) ks).map S
  | [], ks => rfl
  | x :: r, ks => by rw [List.map_cons, List.foldl_cons, List.foldl_cons, addK_S, fold_S r]
theorem metK_S (ls : List (List Nat)) : metK (ls.map S) = (dd ls).map S := fold_S ls []
theorem dd_mem (ls : List (List Nat)) (x : List Nat) : x ∈ dd ls ↔ x ∈ ls := by
  have h := foldK_mem (ls.map S) [] (S x)
  have e := metK_S ls
  unfold metK at e
  rw [e] at h
  have inj : ∀ l : List (List Nat), S x ∈ l.map S ↔ x ∈ l := fun l => by
    rw [List.mem_map]
    exact ⟨fun ⟨y, hy, e⟩ => S_inj.mp e ▸ hy, fun h => ⟨x, h, rfl⟩⟩
  rw [inj, inj] at h
  simpa using h
theorem dd_nodup (ls : List (List Nat)) : (dd ls).Nodup := by
  have h := foldK_nodup (ls.map S) [] List.nodup_nil
  have e := metK_S ls
  unfold metK at e
  rw [e] at h
  exact (List.nodup_map_iff_inj_on_aux h)
where
  List.nodup_map_iff_inj_on_aux {l : List (List Nat)} (h : (l.map S).Nodup) : l.Nodup := by
    rw [List.Nodup, List.pairwise_map] at h
    exact h.imp fun h e => h (by rw [e])
theorem dd_len (ls : List (List Nat)) : (dd ls).length ≤ ls.length := by
  have h := foldK_len (ls.map S) []
  have e := metK_S ls
  unfold metK at e
  rw [e] at h
  simpa using h

section
variable {prog : Program} {w : World} {A : Around} {E : Value → Shared → Prop} {R : Result → Shared → Prop} {s : Shared}

theorem SI.keep {h h' : Heap} {L it a : Addr} {es : Array (Int × Value)} {ep : Nat} {t : SetTable} {vals : List Value} {i : Nat} {acc : List Value} {c : Nat} (H : SI w h it a es ep t vals i) (hL : h.get? L = some (listO acc c))
    (k : ∀ b o, b ≠ L → h.get? b = some o → h'.get? b = some o) : SI w h' it a es ep t vals i := by
  obtain ⟨⟨o, ho, hd⟩, hf, hl, hperm, first, hit, hmode⟩ := H
  have ne : ∀ b o, h.get? b = some o → (∀ n, o ≠ listO acc n) → b ≠ L := fun b o hb hn q => by
    rw [q, hL] at hb; cases hb; exact hn c rfl
  refine ⟨⟨o, k _ _ (ne a o ho fun n q => by rw [q] at hd; cases hd) ho, hd⟩, hf, hl, hperm, first, k _ _ (ne it _ hit fun n q => by injection q with _ _ q _; cases q) hit, ?_⟩
  rcases hmode with h1 | ⟨hb, p, ord, hfst, hpi, hp, hord, hv⟩ | h3
  · exact .inl h1
  · refine .inr (.inl ⟨hb, p, ord, hfst, hpi, k _ _ (ne p _ hp fun n q => ?_) hp, hord, hv⟩)
    have := congrArg Obj.cls q
    exact absurd this (show ¬ (Value.type "tuple" = Value.type "list") by decide)
  · exact .inr (.inr h3)

/-- putting a set's items at the end of a list -/
theorem ext_loop (hh : A.handled = none) (L it a : Addr) (res : Value) (es : Array (Int × Value)) (ep : Nat) (t : SetTable) (vals : List Value) (hLi : L ≠ it) (hia : a ≠ it) (hz : es.size ≤ 1000) :
    ∀ (j i : Nat) (s : Shared) (acc : List Value) (c : Nat), es.size - i = j → i ≤ es.size → SI w s.heap it a es ep t vals i → s.heap.get? L = some (listO acc c) → acc = vals.take i →
      (∀ h' c', (∀ b o, b ≠ L → b ≠ it → s.heap.get? b = some o → h'.get? b = some o) → h'.get? L = some (listO vals c') → R (.ok (.ret res)) { s with heap := h' }) →
      codeAny (model prog w) A (.builtin "list.extend.loop" ⟨[.ref L, .ref it, res], []⟩) R s := by
  intro j
  induction j with
  | zero =>
    intro i s acc c hj hi hS hL hacc hR
    have hi' : i = es.size := by omega
    subst hi'
    refine codeAny_builtin F.entry_extend_loop ?_
    rw [Around.under_plainId F.plain_extend_loop _]
    show wpAny _ A.in1 (pyNext (.ref it) >>= _) _ _ s
    refine wpAny_bind (si_done (by simp [hh]) hS fun h' he => ?_)
    refine wpAny_pure (hR h' c (fun b o h1 h2 e => he b o h2 e) ?_)
    rw [hacc, List.take_of_length_le (by rw [perm_len hS.perm]; exact Nat.le_refl _)] at hL
    exact he L _ hLi hL
  | succ j ih =>
    intro i s acc c hj hi hS hL hacc hR
    have hlt : i < vals.length := by rw [perm_len hS.perm]; omega
    refine codeAny_builtin F.entry_extend_loop ?_
    rw [Around.under_plainId F.plain_extend_loop _]
    show wpAny _ A.in1 (pyNext (.ref it) >>= _) _ _ s
    refine wpAny_bind (si_item hS (List.getElem?_eq_getElem hlt) hia fun h' hsb hS' => ?_)
    have hL' : h'.get? L = some (listO acc c) := hsb.extBut L _ hLi hL
    show wpAny _ A.in1 (updateSeq L (·.push _) >>= _) _ _ _
    have hal : acc.length = i := by rw [hacc, List.length_take]; omega
    have hlz : vals.length ≤ 1000 := by rw [perm_len hS.perm]; exact hz
    have hup := get?_update_seq (c := "list") hL' (fun ys => ys.push vals[i])
    rw [show acc.toArray.push vals[i] = (acc ++ [vals[i]]).toArray from by simp] at hup
    have hkeep : ∀ b o, b ≠ L → h'.get? b = some o → (h'.update L (Obj.mapSeq fun ys => ys.push vals[i])).get? b = some o := fun b o hb e => (Heap.get?_update_other _ _ (Ne.symm hb)).trans e
    refine wpAny_bind (wpAny_updateSeq (s := { s with heap := h' }) hL' rfl (wpAny_pure ⟨plainId_quiet F.plain_extend_loop _, ih (i + 1) _ (acc ++ [vals[i]]) _ (by omega) (by rw [← perm_len hS.perm]; exact hlt) (hS'.keep hL' hkeep) hup ?_ fun h'' c'' hk hL'' => ?_⟩)
      (by simp only [List.size_toArray]; have : sizeLine = 16777216 := rfl; omega) (by simp only [Array.size_push, List.size_toArray]; have : sizeLine = 16777216 := rfl; omega))
    · rw [hacc]; exact List.take_append_getElem hlt
    · exact hR h'' c'' (fun b o h1 h2 e => hk b o h1 h2 (hkeep b o h1 (hsb.extBut b o h2 e))) hL''

theorem SetL.typeIs {a : Addr} {ks : List Str} (h : SetL prog w s.heap a ks) : s.TypeIs (.ref a) "set" := let ⟨o, _, _, _, ho, hex, _⟩ := h; ⟨o, ho, hex.1⟩

/-- list(a set), as the model collects it -/
theorem collect_set (hh : A.handled = none) {a : Addr} {ks : List Str} {Q : List Value → Shared → Prop} (hS : SetL prog w s.heap a ks)
    (hQ : ∀ h' d vs ks', StrsAre vs ks' → ks'.Perm ks → (∀ b o, s.heap.get? b = some o → h'.get? b = some o) → Q vs { s with heap := h', drawn := d }) :
    wpAny (model prog w) A (collect (.ref a)) Q E s := by
  obtain ⟨o, es, ep, t, ho, hex, hd, hel, hpm, hf, hled, hpl, hlen⟩ := id hS
  have hT := hS.typeIs
  have hsz : es.size = ks.length := by have := hpm.length_eq; simpa using this
  unfold collect
  refine wpAny_bind (wpAny_runValue (codeAny_builtin F.entry_proto_collect ?_))
  rw [Around.under_plainId F.plain_proto_collect _]
  show wpAny _ A.in1 (newList [] >>= fun l => again (.builtin "list.__iadd__" ⟨[l, .ref a], []⟩)) _ _ s
  refine wpAny_bind (wpAny_newObj_type ?_)
  refine wpAny_pure ⟨plainId_quiet F.plain_list_iadd _, codeAny_builtin F.entry_list_iadd ?_⟩
  rw [Around.under_plainId F.plain_list_iadd _]
  let h1 := s.heap.push (listO [] 0)
  have hS1 : h1.get? s.heap.objs.size = some (listO [] 0) := Heap.get?_push_size _ rfl
  have ho1 : h1.get? a = some o := Heap.get?_push_of_some _ ho
  have haL : a ≠ s.heap.objs.size := Nat.ne_of_lt (Heap.lt_size ho)
  show wpAny _ A.in1 (Builtin.List.listExtendWith (.ref s.heap.objs.size) (.ref a) (.ref s.heap.objs.size)) _ _ { s with heap := h1 }
  unfold Builtin.List.listExtendWith
  refine wpAny_bind (wpAny_typeOf (s := { s with heap := h1 }) (T := "set") ⟨o, ho1, hex.1⟩ ?_)
  have e1 : Builtin.List.listSameRef (.ref s.heap.objs.size) (.ref a) = false := by simp [Builtin.List.listSameRef, Ne.symm haL]
  rw [if_neg (by rw [e1]; decide)]
  refine wpAny_bind (pyIter_set (s := { s with heap := h1 }) ho1 hex hd hf hled hpl (by omega) fun it h2 d vals hnew hk2 hSI => ?_)
  refine wpAny_bind (wpAny_holding ?_)
  have hT2 : Shared.TypeIs { s with heap := h2, drawn := d } (.ref a) "set" := ⟨o, hk2 _ _ ho1, hex.1⟩
  unfold Builtin.List.listLengthHint
  refine wpAny_bind (wpAny_specialOf hT2 PySem.F.slot_set_len.lookup ?_)
  generalize hid : ("set.__len__" : String) = id0
  wp_delta
  rw [show splitId id0 = some ("set", "__len__") from by subst hid; decide +kernel]
  subst hid
  refine wpAny_bind (wpAny_isInstance (T := "set") (b := true) hT2 sub_set_self ?_)
  refine wpAny_ite_split (fun hab => absurd hab (by decide)) (fun _ => ?_)
  refine wpAny_ite_split (fun _ => ?_) (fun hab => absurd (by decide +kernel) hab)
  refine wpAny_bind (wpAny_typeOf hT2 ?_)
  refine wpAny_pure ?_
  show wpAny _ A.in1 (rule "list.extend.makes-room" >>= fun _ => Builtin.List.listTouch (.ref s.heap.objs.size) >>= fun _ =>
    again (.builtin "list.extend.loop" ⟨[.ref s.heap.objs.size, .ref it, .ref s.heap.objs.size], []⟩)) _ _ _
  refine wpAny_bind (wpAny_rule ?_)
  have hL2 : h2.get? s.heap.objs.size = some (listO [] 0) := hk2 _ _ hS1
  refine wpAny_bind ?_
  show wpAny _ A.in1 (updateSeq s.heap.objs.size (·.push .none) >>= fun _ => updateSeq s.heap.objs.size (·.pop)) _ _ _
  refine wpAny_bind (wpAny_updateSeq (s := { s with heap := h2, drawn := d }) hL2 rfl ?_)
  have hL3 := Heap.get?_update_self (Obj.mapSeq (·.push Value.none)) hL2 rfl
  refine wpAny_updateSeq (s := { s with heap := _, drawn := d }) hL3 rfl ?_
  have hL4 := Heap.get?_update_self (Obj.mapSeq (·.pop)) hL3 rfl
  have oth : ∀ b o, b ≠ s.heap.objs.size → h2.get? b = some o → ((h2.update s.heap.objs.size (Obj.mapSeq (·.push Value.none))).update s.heap.objs.size (Obj.mapSeq (·.pop))).get? b = some o :=
    fun b o hb e => (Heap.get?_update_other _ _ (Ne.symm hb)).trans ((Heap.get?_update_other _ _ (Ne.symm hb)).trans e)
  have hitL : s.heap.objs.size ≠ it := fun q => by rw [← q] at hnew; rw [hS1] at hnew; cases hnew
  have hait : a ≠ it := fun q => by rw [← q] at hnew; rw [ho1] at hnew; cases hnew
  refine wpAny_pure ⟨plainId_quiet F.plain_extend_loop _, ext_loop (by simp [hh]) s.heap.objs.size it a _ es ep t vals hitL hait (by omega) (es.size - 0) 0 _ [] _ rfl (Nat.zero_le _) (hSI.keep hL2 oth) hL4 (by simp) fun h' c' hk' hL' => ?_⟩
  show wpAny _ A (load s.heap.objs.size >>= _) _ _ _
  refine wpAny_bind (wpAny_load hL' ?_)
  have hstr : ∀ v ∈ vals, ∃ x u, v = .str x u := fun v hv => by
    have := hSI.perm.mem_iff.mp hv
    obtain ⟨e, he, rfl⟩ := List.mem_map.mp this
    obtain ⟨u, hu⟩ := elem_str hel e he
    exact ⟨_, u, hu⟩
  refine wpAny_pure (hQ h' d vals (vals.map strOf) (strsAre_map vals hstr) ?_ fun b o' e => ?_)
  · refine (hSI.perm.map strOf).trans ?_
    rw [List.map_map]; exact hpm
  · have hb := Heap.lt_size e
    have h1b : h1.get? b = some o' := Heap.get?_push_of_some _ e
    exact hk' b o' (Nat.ne_of_lt hb) (fun q => by rw [← q] at hnew; rw [h1b] at hnew; cases hnew) (oth b o' (Nat.ne_of_lt hb) (hk2 b o' h1b))
end
end Mine
end

-- part MSet5
section

open PySem PySem.W PyProof.Rows
set_option linter.unusedVariables false
set_option maxRecDepth 100000
namespace Mine

section
variable {prog : Program} {w : World} {A : Around} {E : Value → Shared → Prop} {s : Shared}
/-- sorted(a set of texts) -/
theorem sorted_set {a : Addr} {ls : List (List Nat)} {Q : Value → Shared → Prop} (hh : A.handled = none) (hS : SetL prog w s.heap a (ls.map S)) (hz : ls.length < 64)
    (hQ : ∀ h' d L vs n, s.heap.get? L = none → (∀ b o, s.heap.get? b = some o → h'.get? b = some o) → h'.get? L = some (listO vs n) → StrsAre vs ((srt ls).map S) → Q (.ref L) { s with heap := h', drawn := d }) :
    wpAny (model prog w) A (call (.builtin "sorted") [.ref a]) Q E s := by
  refine Calls.call_function_entry kind_sorted plain_sorted entry_sorted (args_sorted1 _) ?_
  unfold Builtin.«sorted»
  refine wpAny_bind (m := checkCount "sorted" 1 1 _) (wpAny_pure ?_)
  refine wpAny_bind (collect_set (by simp [hh]) hS fun h1 d vs ks hvs hp hk => ?_)
  have hlen : vs.length = ls.length := by
    have h1 : vs.length = ks.length := by rw [← hvs.strs, List.length_map]
    rw [h1, hp.length_eq, List.length_map]
  refine wpAny_bind (wpAny_newList ?_ (by have : sizeLine = 16777216 := rfl; omega))
  have hL : (h1.push (seqObj "list" vs.toArray 0)).get? h1.objs.size = some (seqObj "list" vs.toArray 0) := Heap.get?_push_size _ rfl
  refine wpAny_bind (wpAny_holding (wpAny_call_entry slot_list_sort ⟨_, hL, rfl⟩ entry_list_sort (list_sort_treeK strKind_oneLt hL hvs.keysOf (fun v₁ v₂ rest e => keyKind_strs (by rw [← e]; exact hvs)) (by omega) fun st' hp' hs' => ⟨_, rfl, ?_⟩) (args_list_sort _)))
  refine wpAny_pure ⟨_, rfl, ?_⟩
  obtain ⟨ss', b1, b2, b3⟩ := sorted_out_str hvs hp' hs'
  obtain ⟨n, hn⟩ := sortedHeap_at (h := h1.push (seqObj "list" vs.toArray 0)) (vs := vs) (n := 0) (out := (arrOf st').map (·.2)) hL
  have hss : ss' = (srt ls).map S := sorted_srt b3 (b2.trans hp)
  refine hQ _ d h1.objs.size ((arrOf st').map (·.2)).toList n ?_ (fun b o e => ?_) (by rw [Array.toArray_toList]; exact hn) (hss ▸ b1)
  · cases q : s.heap.get? h1.objs.size with
    | none => rfl
    | some o => exact absurd (Heap.lt_size (hk _ _ q)) (Nat.lt_irrefl _)
  · have hb := Heap.lt_size (hk _ _ e)
    rw [sortedHeap_old (Nat.ne_of_lt hb) (by rw [size_push']; exact Nat.lt_succ_of_lt hb)]
    exact Heap.get?_push_of_some _ (hk _ _ e)
end

section
variable {prog : Program} {w : World} {h₁ : Heap} {mg mb : Str → Option Value} {n : Nat} {sc : Scope} {σ σ' : List (Str × D)}

theorem rdl_strs {g : Gh} {vs : List Value} {row : List (List Nat)} (h : StrsAre vs (row.map S)) : RdL g vs (sL (row.map S)) := RdL.ofStrs h

theorem grow_new {s : Shared} {g : Gh} {h' : Heap} {tk : Nat} {d : Drawn} {L : Addr} {o : Obj} (hs : ∀ a o, g a = some o → s.heap.get? a = some o) (hk : ∀ b o, s.heap.get? b = some o → h'.get? b = some o) (hL : s.heap.get? L = none) (ho : h'.get? L = some o) :
    Grow s g { s with heap := h', toks := tk, drawn := d } (g.add L o) := Grow.add hs hk hL ho rfl rfl

theorem EvE.sorted_set (B : Bs h₁ mg mb) (h1 : Glob mg mb (Str.ofString "sorted") (.builtin "sorted")) (h2 : Glob mg mb (Str.ofString "set") (.type "set")) {p1 p2 p3 p4 : Pos} {e : Expr} {row : List (List Nat)}
    (k1 : sc.names.lookup (Str.ofString "sorted") = some .globalImplicit) (k2 : sc.names.lookup (Str.ofString "set") = some .globalImplicit) (he : ∀ env, starEach [e] env = [(false, eval e env)])
    (hz : row.length < 64) (h : EvE prog w h₁ n sc σ e (tL row)) :
    EvE prog w h₁ n sc σ (.Call (.Name (Str.ofString "sorted") p1) [.Call (.Name (Str.ofString "set") p3) [e] [] p4] [] p2) (tL (srt (dd row))) := fun A E env F s g rm hs I => by
  show wpAny _ A (eval (.Name (Str.ofString "sorted") p1) env >>= fun v => callWith p2 v [] (backTo p2 (starEach [.Call (.Name (Str.ofString "set") p3) [e] [] p4] env)) []) _ E s
  refine wpAny_bind (name_glob B I (hs ▸ k1) h1 ?_ (by decide +kernel))
  refine Calls.callWith_builtin (args_any _ _ rfl) (evalArgs_of (wpAny_items_cons ?_ rfl) rfl)
  show wpAny _ A (eval (.Name (Str.ofString "set") p3) env >>= fun v => callWith p4 v [] (backTo p4 (starEach [e] env)) []) _ E s
  refine wpAny_bind (name_glob B I (hs ▸ k2) h2 ?_ (by decide +kernel))
  have hev : EvL prog w h₁ n sc σ [e] [tL row] := EvL.cons h EvL.nil he
  refine PySem.callWith_type (args_any _ _ (by rw [he]; rfl)) (evalArgs_of (wpAny_mono (hev A E env F s g p4 rm hs I) (fun vs s₁ ⟨g₁, G₁, r₁⟩ => ?_) fun _ _ x => x) (he env))
  cases r₁ with | cons r1 r2 =>
  cases r2
  cases r1 with | @list l vs k _ ha ra =>
  have I₁ := I.grow' G₁
  have hlen := ra.length
  refine call_set_strs (ss := row.map S) rm.handled ⟨_, I₁.wf.sub _ _ ha, rfl, k, rfl⟩ ra.strsAre (by rw [hlen]; simp; omega) fun h' tk hS hk => ?_
  refine wpAny_items_nil ?_
  rw [metK_S] at hS
  refine Mine.sorted_set (s := { s₁ with heap := h', toks := tk }) rm.handled hS (by have := dd_len row; omega) fun h'' d L vs' n' hL hk' hL' hvs' => ?_
  have hLs : s₁.heap.get? L = none := by
    cases q : s₁.heap.get? L with
    | none => rfl
    | some o => have := hk _ _ q; rw [hL] at this; cases this
  have G := grow_new (g := g₁) (tk := tk) (d := d) I₁.wf.sub (fun b o e => hk' _ _ (hk _ _ e)) hLs hL'
  exact ⟨_, G₁.trans G, .list (Gh.add_self _ _ _) (rdl_strs hvs')⟩

theorem CallE.sorted_T {row : List (List Nat)} (hz : row.length < 64) : CallE prog w h₁ n (.builtin "sorted") [tL row] (tL (srt row)) := fun A E s g vs rm W r => by
  cases r with | cons r1 r2 =>
  cases r2
  cases r1 with | @list l vs k _ ha ra =>
  have hlen := ra.length
  refine sorted_strs (ss := row.map S) ⟨_, W.sub _ _ ha, rfl, k, rfl⟩ ra.strsAre (by rw [hlen]; simpa using hz) fun out ss' a1 a2 a3 => ?_
  obtain ⟨e, he⟩ := sortedAll_at s.heap vs out
  have hss : ss' = (srt row).map S := sorted_srt a3 a2
  have G := grow_new (g := g) (tk := s.toks) (d := s.drawn) (o := listO out.toList e) W.sub (fun b o e => sortedAll_old e) (get?_none_of_size (Nat.le_succ _)) (by simpa using he)
  exact ⟨_, G, .list (Gh.add_self _ _ _) (rdl_strs (hss ▸ a1))⟩
end
end Mine
end

-- part MGen
section

open PySem PySem.W PyProof.Rows
set_option linter.unusedVariables false
set_option maxRecDepth 100000
namespace Mine

noncomputable def D.flat : D → Bool
  | .none | .bool _ | .int _ | .str _ | .unset => true
  | _ => false
theorem D.flat_rd {d : D} {g g' : Gh} {v : Value} (hf : d.flat = true) (h : Rd g v d) : Rd g' v d := by
  cases d <;> first | exact absurd hf Bool.false_ne_true | (cases h <;> constructor)

/-- the surroundings of a piece of a generator's run -/
noncomputable def Fx.seg (s : Shared) (g : Gh) (C : Addr) : Fx :=
  { s₀ := { s with heap := default }, g₀ := fun _ => none, K := fun b => if b = C ∨ (g b).isSome = true then none else s.heap.get? b, Kg := fun _ => none, Gp := g }
theorem get?_default (a : Addr) : (default : Heap).get? a = none := by
  show Heap.get? ⟨#[], {}⟩ a = none
  simp [Heap.get?]

/-- what a piece of a generator's run leaves as it was -/
structure Since (own : List Addr) (s₀ s : Shared) : Prop where
  heap : ∀ b o, b ∉ own → s₀.heap.get? b = some o → s.heap.get? b = some o
  os : s.os = s₀.os
  gens : ∀ (i : Nat) (st : GenState), s₀.gens[i]? = some st → s.gens[i]? = some st
  bare : ∀ (i : Nat) (st : GenState), s.gens[i]? = some st → s₀.gens[i]? = some st ∨ st = .finished
theorem Since.refl (own : List Addr) (s : Shared) : Since own s s := ⟨fun _ _ _ e => e, rfl, fun _ _ e => e, fun _ _ e => .inl e⟩
theorem Since.trans {own : List Addr} {s s' s'' : Shared} (x : Since own s s') (y : Since own s' s'') : Since own s s'' :=
  ⟨fun b o hb e => y.heap b o hb (x.heap b o hb e), y.os.trans x.os, fun i st e => y.gens i st (x.gens i st e), fun i st e => (y.bare i st e).elim (x.bare i st) .inr⟩
theorem Grow.since {own : List Addr} {s s' : Shared} {g g' : Gh} (x : Grow s g s' g') : Since own s s' := ⟨fun b o _ e => x.keep b o e, x.os, x.gens, x.bare⟩
theorem Since.heapOnly {own : List Addr} {s : Shared} {h' : Heap} {tk : Nat} (h : ∀ b o, b ∉ own → s.heap.get? b = some o → h'.get? b = some o) : Since own s { s with heap := h', toks := tk } := ⟨h, rfl, fun _ _ e => e, fun _ _ e => .inl e⟩

section
variable {prog : Program} {w : World} {h₁ : Heap} {n : Nat} {sc : Scope} {σ σ' : List (Str × D)}

theorem Inv.resume {env : Env} {F : Fx} {s s'' : Shared} {g g'' : Gh} (I : Inv h₁ env σ F s g) (flat : ∀ p ∈ σ, p.2.flat = true) (hc : env.cells = [])
    (hC : ∀ o, s.heap.get? env.locals = some o → s''.heap.get? env.locals = some o) (hW : Wf h₁ s'' g'') (hg : g'' env.locals = none) : Inv h₁ env σ (Fx.seg s'' g'' env.locals) s'' g'' := by
  obtain ⟨m, ρ, hn, hv, hm⟩ := I.vals
  exact {
    wf := hW
    grow := ⟨fun a o e => (by rw [show (Fx.seg s'' g'' env.locals).s₀.heap.get? a = none from get?_default a] at e; cases e), fun a o e => (by rw [show (Fx.seg s'' g'' env.locals).s₀.heap.get? a = none from get?_default a] at e; cases e),
      hW.sub, rfl, fun _ _ e => e, fun _ _ e => .inl e⟩
    prot := fun a o e => by
      simp only [Fx.seg] at e
      split at e
      · cases e
      · exact e
    protG := fun _ _ e => by cases e
    protF := fun _ _ e => e
    protN := fun a o e => by
      simp only [Fx.seg] at e
      split at e
      · cases e
      · rename_i h
        simp only [not_or] at h
        simpa using h.2
    fn := I.fn, gl := I.gl, bl := I.bl
    loc0 := ⟨get?_default _, by simp [Fx.seg]⟩
    locG := hg
    cellG := fun x c e => by rw [hc] at e; cases e
    cellInj := fun x y c e => by rw [hc] at e; cases e
    nodup := I.nodup
    vals := ⟨m, ρ, (let ⟨o, es, ep, ho, r⟩ := hn; ⟨o, es, ep, hC o ho, r⟩), fun x d hx => (by
      have hf := flat _ hx
      refine ⟨fun hu => ?_, ?_⟩
      · rcases (hv x d hx).1 hu with h | ⟨_, c, e, _⟩
        · exact .inl h
        · rw [hc] at e; cases e
      · by_cases hu : d = .unset
        · subst hu; trivial
        · refine Bnd.of_rd (D.flat_rd hf ((hv x d hx).2.rd (fun xs q => ?_) hu))
          rw [q] at hf; cases hf), fun x y xs ys hx => by have := flat _ hx; cases this⟩ }

theorem Inv.since {env : Env} {s s' : Shared} {g g' : Gh} {C : Addr} {own : List Addr} (I : Inv h₁ env σ (Fx.seg s g C) s' g') (hW : Wf h₁ s g) (hC : C ∈ own) : Since own s s' where
  heap := fun b o hb e => by
    cases hgb : g b with
    | some o' =>
      have e1 := hW.sub b o' hgb
      rw [e] at e1; cases e1
      exact I.wf.sub b o (I.protF b o hgb)
    | none =>
      refine I.prot b o ?_
      simp only [Fx.seg]
      rw [if_neg]
      · exact e
      · rintro (q | q)
        · exact hb (q ▸ hC)
        · rw [hgb] at q; cases q
  os := I.grow.os
  gens := I.grow.gens
  bare := I.grow.bare

theorem none_back {s s' : Shared} {g g' : Gh} {a : Addr} (G : Grow s g s' g') (h : s'.heap.get? a = none) : s.heap.get? a = none := by
  cases q : s.heap.get? a with
  | none => rfl
  | some o => have := G.keep _ _ q; rw [h] at this; cases this
/-- a new tuple -/
theorem tup_new {es : List Expr} {ds : List D} {k : Nat} {pos : Pos} {A : Around} {E : Value → Shared → Prop} {env : Env} {F : Fx} {s : Shared} {g : Gh} (h : EvL prog w h₁ n sc σ es ds) (hz : ds.length ≤ 1000) (rm : Room n A) (hs : env.scope = sc) (I : Inv h₁ env σ F s g) :
    wpAny (model prog w) A (eval (.Tuple es k pos) env) (fun v s' => ∃ g' a vs, v = .ref a ∧ Grow s g s' g' ∧ s.heap.get? a = none ∧ s'.heap.get? a = some (tupO vs 0) ∧ RdL g' vs ds) E s :=
  wpAny_Tuple (wpAny_mono (h A E env F s g pos rm hs I) (fun vs s₁ ⟨g₁, G₁, r₁⟩ =>
    ⟨by rw [r₁.length]; exact Nat.le_trans hz (by decide), g₁, s₁.heap.objs.size, vs, rfl, G₁.trans (Grow.kept G₁.sub (fun _ _ e => Heap.get?_push_of_some _ e) rfl rfl), none_back G₁ (get?_none_of_size (Nat.le_refl _)), Heap.get?_push_size _ rfl, r₁⟩) fun _ _ x => x)

section
variable {A : Around} {R : GenEnd} {Y : Protocol} {m : Nat} {s₀ s : Shared} {c : Code} {fs : List PySem.Frame} {env : Env} {F : Fx} {g : Gh} {K : Flow → Sem Fin} {H : Value → Sem Fin} {gd : Bool → Bool} {lv : List Value → List Value}

theorem seg_stm {st : Stmt} {rest : List Stmt} (h : ExS prog w h₁ n sc σ st (.next σ')) (rm : Room n (A.over c fs)) (hsc : env.scope = sc) (ow : Own env F) (I : Inv h₁ env σ F s g)
    (hk : ∀ s' g', Inv h₁ env σ' F s' g' → Seg (model prog w) A R Y m s₀ c ((execs rest env).wrap K H gd lv) fs s') :
    Seg (model prog w) A R Y m s₀ c ((execs (st :: rest) env).wrap K H gd lv) fs s := by
  refine seg_execs_cons (seg_wrap (wpAny_mono (h (A.over c fs) (fun _ _ => False) env F s g rm hsc ow I) (fun f s' ⟨g', e, I'⟩ => ?_) fun _ _ x => x.elim))
  subst e
  exact hk s' g' I'

theorem seg_If {t : Expr} {b o rest : List Stmt} {pos : Pos} {bo : Bool} (h : EvB prog w h₁ n sc σ t bo) (rm : Room n (A.over c fs)) (hsc : env.scope = sc) (I : Inv h₁ env σ F s g)
    (hk : ∀ s' g', Grow s g s' g' → Inv h₁ env σ F s' g' → Seg (model prog w) A R Y m s₀ c ((if bo = true then execs b env else execs o env).wrap (fun f => match f with | .next => (execs rest env).wrap K H gd lv | f => K f) H gd lv) fs s') :
    Seg (model prog w) A R Y m s₀ c ((execs (.If t b o pos :: rest) env).wrap K H gd lv) fs s := by
  refine seg_execs_cons ?_
  show Seg _ A R Y m s₀ c (((standAt pos >>= fun _ => isTrue t env (eval t env) >>= fun r => if r = true then execs b env else execs o env)).wrap _ H gd lv) fs s
  refine seg_bind_wrap (wpAny_standAt ?_)
  refine seg_bind_wrap (wpAny_mono (h (A.over c fs) (fun _ _ => False) env F s g rm hsc I) (fun r s' ⟨e, g', G⟩ => ?_) fun _ _ x => x.elim)
  subst e
  exact hk s' g' G (I.grow' G)
end
end
end Mine
end

-- part MGen2
section

open PySem PySem.W PyProof.Rows
set_option linter.unusedVariables false
set_option maxRecDepth 100000
namespace Mine

/-- what is done with the end of an inner run -/
noncomputable def kRet (env : Env) (K : Flow → Sem Fin) (H : Value → Sem Fin) (gd : Bool → Bool) (lv : List Value → List Value) : Result → Sem Fin := fun r =>
  ((match r with | .ok f => (.pure f : Sem Flow) | .error e => .raise e).onRaise fun (x : Value) => do
        if (← field x 1) == Value.none then unsupported "frame.own-activation:exception-without-traceback"
        setFlight x env.frame).wrap K H gd lv

section
variable {prog : Program} {w : World} {h₁ : Heap} {n : Nat} {sc : Scope} {σ σ' : List (Str × D)}
variable {A : Around} {R : GenEnd} {Y : Protocol} {m : Nat} {s₀ s : Shared} {c : Code} {fs : List PySem.Frame} {env : Env} {F : Fx} {g : Gh} {K : Flow → Sem Fin} {H : Value → Sem Fin} {gd : Bool → Bool} {lv : List Value → List Value}

theorem seg_For {target iter : Expr} {body rest : List Stmt} {pos : Pos} (hs : ∀ x, foldedSetIterable iter env x = pure x)
    (h : wpAny (model prog w) (A.over c fs) (eval iter env) (fun x s₁ => wpAny (model prog w) (A.over c fs) (pyIter x) (fun it s₂ =>
      ∀ p, Seg (model prog w) A R Y m s₀ (.forLoop target it body [] env) ((model prog w).den (.forLoop target it body [] env))
        (.ret (kRet env (fun f => match f with | .next => (execs rest env).wrap K H gd lv | f => K f) H gd lv) none (gd false) (lv []) c p [] :: fs) s₂) (fun _ _ => False) s₁) (fun _ _ => False) s) :
    Seg (model prog w) A R Y m s₀ c ((execs (.For target iter body [] pos :: rest) env).wrap K H gd lv) fs s := by
  refine seg_execs_cons ?_
  rw [exec_For]
  refine seg_bind_wrap (wpAny_standAt ?_)
  refine seg_bind_wrap (wpAny_mono h (fun x s₁ h₁ => ?_) fun _ _ x => x.elim)
  refine seg_bind_wrap (wpAny_of_eq (hs x) ?_)
  refine seg_bind_wrap (wpAny_standAt ?_)
  refine seg_bind_wrap (wpAny_holding (wpAny_mono h₁ (fun it s₂ h₂ => ?_) fun _ _ x => x.elim))
  exact seg_call h₂

/-- what is done with the end of a turn -/
noncomputable def kTurn (target : Expr) (it : Value) (body : List Stmt) (env : Env) : Flow → Sem Fin := fun f => match f with
  | .next | .cont => .pure (.again (.forLoop target it body [] env))
  | .brk => .pure (.done .next)
  | .ret v => .pure (.done (.ret v))
noncomputable def hTurn (env : Env) : Value → Sem Fin := fun e => (do noteFrame e env; theTreesLotGoes e : Sem Unit).wrap (fun _ => .raise e) .raise id id

theorem seg_turn {target : Expr} {it : Value} {body : List Stmt}
    (h : wpAny (model prog w) (A.over (.forLoop target it body [] env) fs) (pyNext it) (fun o s₁ => match o with
      | none => Seg (model prog w) A R Y m s₀ (.forLoop target it body [] env) (.pure (.again (.block [] env))) fs s₁
      | some v => wpAny (model prog w) (A.over (.forLoop target it body [] env) fs) (letOwnedTupleGo target it v) (fun _ s₂ =>
          wpAny (model prog w) (A.over (.forLoop target it body [] env) fs) (assign target env v) (fun _ s₃ =>
            Seg (model prog w) A R Y m s₀ (.forLoop target it body [] env) ((execs body env).wrap (kTurn target it body env) (hTurn env) id id) fs s₃) (fun _ _ => False) s₂) (fun _ _ => False) s₁) (fun _ _ => False) s) :
    Seg (model prog w) A R Y m s₀ (.forLoop target it body [] env) ((model prog w).den (.forLoop target it body [] env)) fs s := by
  show Seg _ A R Y m s₀ _ ((forTurn target it body [] env).onRaise (fun x => do noteFrame x env; theTreesLotGoes x)) fs s
  unfold forTurn
  rw [Sem.onRaise_eq_wrap]
  refine seg_bind_wrap (wpAny_standAt ?_)
  refine seg_bind_wrap (wpAny_onRaise (wpAny_mono h (fun o s₁ h₁ => ?_) fun _ _ x => x.elim))
  cases o with
  | none => exact h₁
  | some v =>
    refine seg_bind_wrap (wpAny_mono h₁ (fun _ s₂ h₂ => ?_) fun _ _ x => x.elim)
    refine seg_bind_wrap (wpAny_mono h₂ (fun _ s₃ h₃ => ?_) fun _ _ x => x.elim)
    rw [Sem.bind_eq_wrap', Sem.wrap_wrap]
    rw [Sem.wrap_congr (execs body env) _ _ (K' := kTurn target it body env) (H' := hTurn env) (fun f => by cases f <;> rfl)
        (fun e => by first | exact Sem.bind_eq_wrap _ _ | (show (do noteFrame e env; theTreesLotGoes e : Sem Unit).bind (fun _ => .raise e) = _; rw [Sem.bind_eq_wrap]; rfl))]
    exact h₃

/-- the loop's end: its code goes on as the empty else -/
theorem seg_loop_end {target : Expr} {it : Value} {body : List Stmt} {k : Result → Sem Fin} {hd : Option Value} {gu : Bool} {l kp : List Value} {c₁ : Code} {p₁ : Pos}
    (h : Seg (model prog w) A R Y m s₀ c₁ (k (.ok .next)) fs s) :
    Seg (model prog w) A R Y m s₀ (.forLoop target it body [] env) (.pure (.again (.block [] env))) (.ret k hd gu l c₁ p₁ kp :: fs) s := by
  refine seg_again rfl ?_
  exact seg_leaf (.ok .next) h

/-- a yield of a pair -/
theorem seg_yield_pair {es : List Expr} {k : Nat} {tp ypos pos : Pos} {d1 d2 : D} {rest : List Stmt} (he : EvL prog w h₁ n sc σ es [d1, d2]) (rm : Room n (A.over c fs)) (hsc : env.scope = sc) (I : Inv h₁ env σ F s g)
    (hfs : splitAtGen fs = none) (hgd : gd false = false) (hfg : fs.any Frame.guarded = false) (hco : env.scope.isCoroutine = false) (hi : interactive env = false)
    (h : ∀ s' g' a vs, Grow s g s' g' → Inv h₁ env σ F s' g' → s.heap.get? a = none → s'.heap.get? a = some (tupO vs 0) → RdL g' vs [d1, d2] → ∀ kap : Resume → Shared → Prop,
      (∀ s'', Seg (model prog w) A R Y m s'' c ((execs rest env).wrap K H gd lv) fs s'' → kap (.send .none) s'') → Y m s₀ (.ref a) s' kap) :
    Seg (model prog w) A R Y (m + 1) s₀ c ((execs (.Expr (.Yield (some (.Tuple es k tp)) ypos) pos :: rest) env).wrap K H gd lv) fs s := by
  refine seg_execs_cons ?_
  refine seg_Expr_Yield hfs hgd hfg (wpAny_mono (tup_new (E := fun _ _ => False) he (by simp) rm hsc I) (fun v s' ⟨g', a, vs, e, G, hn, ht, hr⟩ => ?_) fun _ _ x => x.elim) hco hi
  subst e
  intro kap hk
  exact h s' g' a vs G (I.grow' G) hn ht hr kap fun s'' hs => hk .none s'' hs
end
end Mine
end

-- part MGen3
section

open PySem PySem.W PyProof.Rows
set_option linter.unusedVariables false
set_option maxRecDepth 100000
namespace Mine


/-- the signs of a text with their places, an escaped one with its escape -/
noncomputable def esc : Nat → Bool → List Nat → List (Nat × List Nat)
  | i, true, [] => [(i - 1, [92])]
  | _, false, [] => []
  | i, true, c :: r => (i, [92] ++ [c]) :: esc (i + 1) false r
  | i, false, c :: r => if c = 92 then esc (i + 1) true r else (i, [c]) :: esc (i + 1) false r

noncomputable def iFor : Stmt := (fBody (stm 1)).getD 2 noD
noncomputable def iBody : List Stmt := match iFor with | .For _ _ b _ _ => b | _ => []
noncomputable def iTarget : Expr := match iFor with | .For t _ _ _ _ => t | _ => default

/-- how the generator's pieces are put together -/
noncomputable def Yp (h₁ : Heap) (own : List Addr) (ys : List (Nat × List Nat)) : Protocol := fun m s₀ v s kap =>
  (∃ a pos text t u k, ys[ys.length - 1 - m]? = some (pos, text) ∧ v = .ref a ∧ s₀.heap.get? a = none ∧ s.heap.get? a = some (tupO [.int ((pos : Nat) : Int) t, .str (S text) u] k) ∧ a ∉ own) ∧ Since own s₀ s ∧
  (∀ b ∈ own, ∃ o, s.heap.get? b = some o ∧ ∀ xs k, o.data ≠ .seq xs k) ∧
  ∀ s'' g'', Wf h₁ s'' g'' → (∀ b ∈ own, ∀ o, s.heap.get? b = some o → s''.heap.get? b = some o) → (∀ b ∈ own, g'' b = none) → kap (.send .none) s''
noncomputable abbrev Rp (own : List Addr) : GenEnd := fun n s₀ r s₁ => r = .ok (.ret .none) ∧ (n = 0 ∧ Since own s₀ s₁)

noncomputable abbrev sI (l : List Nat) (p : Nat) (e : Bool) (chd : D) : List (Str × D) := [(Str.ofString "addr", tx l), (Str.ofString "pos", .int (p : Int)), (Str.ofString "escape", .bool e), (Str.ofString "ch", chd)]

section
variable {prog : Program} {w : World} {h₁ : Heap} {n : Nat}
variable {A : Around} {m : Nat} {s₀ s : Shared} {c : Code} {fs : List PySem.Frame} {env : Env} {g : Gh} {K : Flow → Sem Fin} {H : Value → Sem Fin} {gd : Bool → Bool} {lv : List Value → List Value}

theorem flat_sI {l : List Nat} {p : Nat} {e : Bool} {chd : D} (h : chd.flat = true) : ∀ q ∈ sI l p e chd, q.2.flat = true := by
  intro q hq
  simp only [List.mem_cons, List.not_mem_nil, or_false] at hq
  rcases hq with rfl | rfl | rfl | rfl <;> first | rfl | exact h

theorem nocell1 : ((fScope (stm 1)).names.all fun x => x.2 != .cell) = true := by decide +kernel
theorem own_gen {F : Fx} (hsc : env.scope = fScope (stm 1)) (hc : env.cells = []) : Own env F := ⟨fun x c e => (by rw [hc] at e; cases e), fun x hx => by
  have h : env.scope.names.lookup x = some .cell := hx
  rw [hsc] at h
  have := List.all_eq_true.mp nocell1 _ (mem_of_lookup h)
  simp at this⟩
theorem body_quiet {R : GenEnd} {Y : Protocol} {l : List Nat} {i : Nat} {F : Fx} (hsc : env.scope = fScope (stm 1)) (rm : Room n (A.over c fs)) (ow : Own env F) (I : Inv h₁ env (sI l i false (tx [92])) F s g)
    (hk : ∀ s' g', Inv h₁ env (sI l i true (tx [92])) F s' g' → Seg (model prog w) A R Y m s₀ c (K .next) fs s') :
    Seg (model prog w) A R Y m s₀ c ((execs iBody env).wrap K H gd lv) fs s := by
  conv => arg 8; arg 5; arg 1; whnf
  refine seg_If (bo := false) ?t rm hsc I fun s1 g1 G1 I1 => ?_
  case t =>
    refine EvB.val (d := .bool false) ?_ TruE.bool (by intro _ _; rfl)
    repeat' walk_at "m ev"
  rw [if_neg Bool.false_ne_true]
  refine seg_If (bo := true) ?t rm hsc I1 fun s2 g2 G2 I2 => ?_
  case t =>
    refine EvB.cast (d := decide (([92] : List Nat) = [92])) ?_ (by decide)
    repeat' walk_at "m ev"
  rw [if_pos rfl]
  refine seg_stm (σ' := sI l i true (tx [92])) ?_ rm hsc ow I2 fun s3 g3 I3 => ?_
  · refine ExS.assign (d := .bool true) EvE.const_bool ?_ (by decide +kernel)
    walk_at "m set"
  exact hk s3 g3 I3

theorem body_yield {own : List Addr} {ys : List (Nat × List Nat)} {l : List Nat} {i cc : Nat} {e : Bool} {text : List Nat} {F : Fx} (hsc : env.scope = fScope (stm 1)) (rm : Room n (A.over c fs)) (I : Inv h₁ env (sI l i e (tx [cc])) F s g)
    (hcase : (e = true ∧ text = [92] ++ [cc]) ∨ (e = false ∧ cc ≠ 92 ∧ text = [cc])) (hcells : env.cells = []) (hCo : env.locals ∈ own)
    (hfs : splitAtGen fs = none) (hgd : gd false = false) (hfg : fs.any Frame.guarded = false)
    (hys : ys[ys.length - 1 - m]? = some (i, text)) (hsince : Since own s₀ s) (hlive : ∀ b ∈ own, ∃ o, s.heap.get? b = some o ∧ ∀ xs k, o.data ≠ .seq xs k)
    (hnext : ∀ s'' g'' s₃ g₃, (∀ b ∈ own, ∀ o, s.heap.get? b = some o → s''.heap.get? b = some o) → (∀ b ∈ own, g'' b = none) → Wf h₁ s'' g'' → Inv h₁ env (sI l i false (tx [cc])) (Fx.seg s'' g'' env.locals) s₃ g₃ →
      Seg (model prog w) A (Rp own) (Yp h₁ own ys) m s'' c (K .next) fs s₃) :
    Seg (model prog w) A (Rp own) (Yp h₁ own ys) (m + 1) s₀ c ((execs iBody env).wrap K H gd lv) fs s := by
  have hnew : ∀ b o, s₀.heap.get? b = some o → ∃ o', s.heap.get? b = some o' := fun b o e => by
    by_cases hb : b ∈ own
    · exact (hlive b hb).imp fun _ h => h.1
    · exact ⟨o, hsince.heap b o hb e⟩
  have out : ∀ (s1 s' : Shared) (g1 g' : Gh) (a : Addr) (vs : List Value), Grow s g s1 g1 → Grow s1 g1 s' g' → s1.heap.get? a = none → s'.heap.get? a = some (tupO vs 0) → RdL g' vs [.int (i : Int), tx text] →
      (∃ a' pos text t u k, ys[ys.length - 1 - m]? = some (pos, text) ∧ Value.ref a = .ref a' ∧ s₀.heap.get? a' = none ∧ s'.heap.get? a' = some (tupO [.int ((pos : Nat) : Int) t, .str (S text) u] k) ∧ a' ∉ own) ∧ Since own s₀ s' ∧ (∀ b ∈ own, ∃ o, s'.heap.get? b = some o ∧ ∀ xs k, o.data ≠ .seq xs k) := by
    intro s1 s' g1 g' a vs G1 G' hn ht hr
    refine ⟨?_, hsince.trans (G1.trans G').since, fun b hb => let ⟨o, h1, h2⟩ := hlive b hb; ⟨o, (G1.trans G').keep b o h1, h2⟩⟩
    cases hr with | cons r1 r2 =>
    cases r2 with | cons r2 r3 =>
    cases r3
    cases r1; cases r2
    refine ⟨a, i, text, _, _, 0, hys, rfl, ?_, ht, fun q => ?_⟩
    · cases q : s₀.heap.get? a with
      | none => rfl
      | some o => obtain ⟨o', h'⟩ := hnew a o q; have := G1.keep _ _ h'; rw [hn] at this; cases this
    · obtain ⟨o, h1, _⟩ := hlive a q
      have := G1.keep _ _ h1; rw [hn] at this; cases this
  conv => arg 8; arg 5; arg 1; whnf
  refine seg_If (bo := e) ?t rm hsc I fun s1 g1 G1 I1 => ?_
  case t =>
    refine EvB.val (d := .bool e) ?_ TruE.bool (by intro _ _; rfl)
    repeat' walk_at "m ev"
  rcases hcase with ⟨rfl, rfl⟩ | ⟨rfl, hcc, rfl⟩
  · rw [if_pos rfl]
    refine seg_yield_pair (d1 := .int (i : Int)) (d2 := tx ([92] ++ [cc])) ?e rm hsc I1 hfs hgd hfg (by rw [hsc]; rfl) (by have h := hsc; cases env; cases h; rfl) fun s' g' a vs G' I' hn ht hr kap hk => ?_
    case e =>
      repeat' walk_at "m ev"
      all_goals simp
    obtain ⟨o1, o2, o3⟩ := out s1 s' g1 g' a vs G1 G' hn ht hr
    refine ⟨o1, o2, o3, fun s'' g'' hW hkeep hgn => hk s'' ?_⟩
    have hkeep' : ∀ b ∈ own, ∀ o, s.heap.get? b = some o → s''.heap.get? b = some o := fun b hb o h => hkeep b hb o ((G1.trans G').keep b o h)
    have I2 := I'.resume (flat_sI rfl) hcells (fun o h => hkeep _ hCo o h) hW (hgn _ hCo)
    refine seg_stm (σ' := sI l i false (tx [cc])) ?_ rm hsc (own_gen hsc hcells) I2 fun s3 g3 I3 => ?_
    · refine ExS.assign (d := .bool false) EvE.const_bool ?_ (by decide +kernel)
      walk_at "m set"
    exact hnext s'' g'' s3 g3 hkeep' hgn hW I3
  · rw [if_neg Bool.false_ne_true]
    refine seg_If (bo := false) ?t rm hsc I1 fun s2 g2 G2 I2 => ?_
    case t =>
      refine EvB.cast (d := decide (([cc] : List Nat) = [92])) ?_ (by simpa using hcc)
      repeat' walk_at "m ev"
    rw [if_neg Bool.false_ne_true]
    refine seg_yield_pair (d1 := .int (i : Int)) (d2 := tx [cc]) ?e rm hsc I2 hfs hgd hfg (by rw [hsc]; rfl) (by have h := hsc; cases env; cases h; rfl) fun s' g' a vs G' I' hn ht hr kap hk => ?_
    case e =>
      repeat' walk_at "m ev"
    obtain ⟨o1, o2, o3⟩ := out s2 s' g2 g' a vs (G1.trans G2) G' hn ht hr
    refine ⟨o1, o2, o3, fun s'' g'' hW hkeep hgn => hk s'' ?_⟩
    have hkeep' : ∀ b ∈ own, ∀ o, s.heap.get? b = some o → s''.heap.get? b = some o := fun b hb o h => hkeep b hb o (((G1.trans G2).trans G').keep b o h)
    have I3 := I'.resume (flat_sI rfl) hcells (fun o h => hkeep _ hCo o h) hW (hgn _ hCo)
    exact hnext s'' g'' s'' g'' hkeep' hgn hW I3
end
end Mine
end

-- part MGen4
section

open PySem PySem.W PyProof.Rows
set_option linter.unusedVariables false
set_option maxRecDepth 100000
namespace Mine


section
variable {prog : Program} {w : World} {A : Around} {E : Value → Shared → Prop} {s : Shared}
/-- the end of an enumeration of a text's signs: the text's iterator is still there -/
theorem enum_done {en it : Addr} {x : Str} {t : Tok} {i : Nat} {j : Int} {old : Value} {Q : Option Value → Shared → Prop} (hh : A.handled = none) (he : IsEnum s.heap en it j old) (hit : s.heap.IsStrIter it "str_ascii_iterator" x t i) (hx : x.cps[i]? = none)
    (hQ : ∀ h', Heap.ExtBut it s.heap h' → (∃ o fs, h'.get? it = some o ∧ o.data = .fields fs) → Q none { s with heap := h' }) : wpAny (model prog w) A (pyNext (.ref en)) Q E s := by
  have hT : s.TypeIs (.ref en) "enumerate" := ⟨_, he, rfl⟩
  unfold pyNext
  refine wpAny_bind (wpAny_attempt (wpAny_callSpecial?_slot (name := Str.ofString "__next__") hT F.slot_enumerate_next
    (wpAny_call_entry F.slot_enumerate_next hT F.entry_enumerate_next ?_ (F.args_enumerate_next_1 _))))
  show wpAny _ _ (field (.ref en) 2 >>= _) _ _ _
  refine wpAny_bind (wpAny_field he rfl (x := .ref it) rfl ?_)
  refine wpAny_bind ?_
  obtain ⟨o, ho, hc, hd⟩ := id hit
  unfold Builtin.SmallTypes.nextOf
  refine wpAny_bind (wpAny_callSpecial?_slot (name := Str.ofString "__next__") hit.typeIs F.slot_str_ascii_iterator_next
    (wpAny_call_entry F.slot_str_ascii_iterator_next hit.typeIs F.entry_str_ascii_iterator_next ?_ (F.args_str_ascii_iterator_next_1 _)))
  show wpAny _ _ (field (.ref it) 0 >>= _) _ _ s
  refine wpAny_bind (wpAny_field ho hd (x := .str x t) rfl ?_)
  show wpAny _ _ (field (.ref it) 1 >>= _) _ _ s
  refine wpAny_bind (wpAny_field ho hd (x := .int i 0) rfl ?_)
  simp only [Int.toNat_natCast, hx]
  refine wpAny_bind (wpAny_rule (wpAny_bind (wpAny_setField ho hd (by simp) (wpAny_bind (wpAny_letGo ?_)))))
  show wpAny _ _ (newExc (.type "StopIteration") [] >>= _) _ _ _
  refine wpAny_bind ?_
  simp only [newExc, newTuple]
  refine wpAny_bind (wpAny_newObj_type ?_ (by size_fits))
  refine wpAny_bind (m := firstArgMember _ _) (wpAny_of_eq (a := Value.none) (by first | rfl | (simp only [firstArgMember]; rfl)) ?_)
  refine wpAny_newObj_type ?_ (by size_fits)
  simp only [raiseNew]
  refine wpAny_bind (wpAny_handled ?_)
  rw [show A.in1.in1.handled = none from hh]
  refine wpAny_bind (wpAny_pure (wpAny_throw ?_))
  refine wpAny_bind (wpAny_isInstance (T := "StopIteration") (b := true) ⟨_, Heap.get?_push_size _ rfl, rfl⟩ isSubtype_stop ?_)
  refine wpAny_pure (hQ _ (((Heap.SameBut.update ..).extBut.push _).push _) ?_)
  exact ⟨_, _, Heap.get?_push_of_some _ (Heap.get?_push_of_some _ (Heap.get?_update_self _ ho (Obj.isFreed_of_fields (Obj.data_mapFields hd _)))), Obj.data_mapFields hd _⟩
end

section
variable {prog : Program} {w : World} {h₁ : Heap} {n : Nat} {σ : List (Str × D)}
variable {A : Around} {env : Env}

/-- a generator's frame at the start of a piece -/
theorem Inv.flatStart {s : Shared} {g : Gh} (hW : Wf h₁ s g) (fn : env.scope.kind = .function) (gl : env.globals = mainGlobals) (bl : env.builtins = builtinsNs) (hc : env.cells = []) (hg : g env.locals = none) (nodup : (σ.map (·.1)).Nodup)
    (m : Str → Option Value) (hn : s.heap.Ns env.locals m) (ρ : Str → Value) (hv : ∀ x d, (x, d) ∈ σ → d.flat = true ∧ (d ≠ .unset → env.kindOf x = some .local ∧ m x = some (ρ x) ∧ Rd g (ρ x) d)) : Inv h₁ env σ (Fx.seg s g env.locals) s g where
  wf := hW
  grow := ⟨fun a o e => (by rw [show (Fx.seg s g env.locals).s₀.heap.get? a = none from get?_default a] at e; cases e), fun a o e => (by rw [show (Fx.seg s g env.locals).s₀.heap.get? a = none from get?_default a] at e; cases e),
      hW.sub, rfl, fun _ _ e => e, fun _ _ e => .inl e⟩
  prot := fun a o e => by
    simp only [Fx.seg] at e
    split at e
    · cases e
    · exact e
  protG := fun _ _ e => by cases e
  protF := fun _ _ e => e
  protN := fun a o e => by
    simp only [Fx.seg] at e
    split at e
    · cases e
    · rename_i h
      simp only [not_or] at h
      simpa using h.2
  fn := fn
  gl := gl
  bl := bl
  loc0 := ⟨get?_default _, by simp [Fx.seg]⟩
  locG := hg
  cellG := fun x c e => by rw [hc] at e; cases e
  cellInj := fun x y c e => by rw [hc] at e; cases e
  nodup := nodup
  vals := ⟨m, ρ, hn, fun x d hx => ⟨fun hu => .inl ⟨((hv x d hx).2 hu).1, ((hv x d hx).2 hu).2.1⟩, by
      by_cases hu : d = .unset
      · subst hu; trivial
      · exact Bnd.of_rd ((hv x d hx).2 hu).2.2⟩, fun x y xs ys hx => by have := (hv _ _ hx).1; cases this⟩

theorem Inv.seg_kept {s s' : Shared} {g g' : Gh} {b : Addr} {o : Obj} (I : Inv h₁ env σ (Fx.seg s g env.locals) s' g') (hb : b ≠ env.locals) (hg : g b = none) (ho : s.heap.get? b = some o) : s'.heap.get? b = some o ∧ g' b = none := by
  have e : (Fx.seg s g env.locals).K b = some o := by
    simp only [Fx.seg]
    rw [if_neg]
    · exact ho
    · rintro (q | q)
      · exact hb q
      · rw [hg] at q; cases q
  exact ⟨I.prot b o e, I.protN b o e⟩

theorem loop_seg {l : List Nat} {own : List Addr} {ys : List (Nat × List Nat)} {en it : Addr} {t : Tok} {k : Result → Sem Fin} {c₁ : Code} {p₁ : Pos} (hsc : env.scope = fScope (stm 1)) (hcells : env.cells = []) (hown : own = [env.locals, en, it])
    (hne : en ≠ it) (hCe : env.locals ≠ en) (hCi : env.locals ≠ it)
    (rm : Room n (A.over (.forLoop iTarget (.ref en) iBody [] env) [.ret k none false [] c₁ p₁ []]))
    (hend : ∀ e s₀ s g, Since own s₀ s → (∀ b ∈ own, ∃ o, s.heap.get? b = some o ∧ ∀ xs k, o.data ≠ .seq xs k) → Inv h₁ env (sI l (l.length - 1) e .unset) (Fx.seg s g env.locals) s g → (∃ done, ys = done ++ esc l.length e []) →
      Seg (model prog w) A (Rp own) (Yp h₁ own ys) (esc l.length e []).length s₀ c₁ (k (.ok .next)) [] s) :
    ∀ (r : List Nat) (i : Nat) (e : Bool) (s₀ s : Shared) (g : Gh), l.drop i = r → i + r.length = l.length → Inv h₁ env (sI l (i - 1) e .unset) (Fx.seg s g env.locals) s g → (∃ old, IsEnum s.heap en it (i : Int) old) → s.heap.IsStrIter it ("str_ascii_iterator") (S l) t i →
      g en = none → g it = none → Since own s₀ s → (∃ done, ys = done ++ esc i e r) →
      Seg (model prog w) A (Rp own) (Yp h₁ own ys) (esc i e r).length s₀ (.forLoop iTarget (.ref en) iBody [] env) ((model prog w).den (.forLoop iTarget (.ref en) iBody [] env)) [.ret k none false [] c₁ p₁ []] s := by
  have hCo : env.locals ∈ own := by rw [hown]; simp
  have D := Draws.strAscii (prog := prog) (w := w) (A := (A.over (.forLoop iTarget (.ref en) iBody [] env) [.ret k none false [] c₁ p₁ []]).in1) (by rw [show ∀ B : Around, B.in1.handled = B.handled from fun _ => rfl]; exact rm.handled) it (S l) t
  have hsz : (S l).cps.size = l.length := by simp [S]
  have live : ∀ (s : Shared) (m : Str → Option Value) (i : Nat) (j : Int) (old : Value), s.heap.Ns env.locals m → IsEnum s.heap en it j old → s.heap.IsStrIter it ("str_ascii_iterator") (S l) t i → ∀ b ∈ own, ∃ o, s.heap.get? b = some o ∧ ∀ xs k, o.data ≠ .seq xs k := by
    intro s m i j old hn he hi b hb
    rw [hown] at hb
    simp only [List.mem_cons, List.not_mem_nil, or_false] at hb
    rcases hb with rfl | rfl | rfl
    · obtain ⟨o, es, ep, ho, hd, _⟩ := hn; exact ⟨o, ho, fun xs k q => by rw [hd] at q; cases q⟩
    · exact ⟨_, he, fun xs k q => by cases q⟩
    · obtain ⟨o, ho, _, hd⟩ := hi; exact ⟨o, ho, fun xs k q => by rw [hd] at q; cases q⟩
  intro r
  induction r with
  | nil =>
    intro i e s₀ s g hdr hlen I hen hit hge hgi hsince hys
    obtain ⟨old, hen⟩ := hen
    have hi : i = l.length := by simpa using hlen
    subst hi
    refine seg_turn (enum_done rm.handled hen hit (by rw [Array.getElem?_eq_none]; rw [hsz]; exact Nat.le_refl _) fun h' hx hitx => ?_)
    refine seg_loop_end ?_
    have hW : Wf h₁ { s with heap := h' } g := ⟨fun a o e => hx a o (fun q => by rw [q, hgi] at e; cases e) (I.wf.sub a o e), I.wf.base⟩
    have I' := I.resume (s'' := { s with heap := h' }) (flat_sI rfl) hcells (fun o h => hx _ o hCi h) hW I.locG
    have hsince' : Since own s₀ { s with heap := h' } := hsince.trans (Since.heapOnly (tk := s.toks) fun b o hb e => hx b o (fun q => hb (by rw [hown, q]; simp)) e)
    obtain ⟨m, ρ, hn, _⟩ := I'.vals
    refine hend e s₀ _ g hsince' ?_ I' hys
    intro b hb
    rw [hown] at hb
    simp only [List.mem_cons, List.not_mem_nil, or_false] at hb
    rcases hb with rfl | rfl | rfl
    · obtain ⟨o, es, ep, ho, hd, _⟩ := hn; exact ⟨o, ho, fun xs k q => by rw [hd] at q; cases q⟩
    · exact ⟨_, hx _ _ hne hen, fun xs k q => by cases q⟩
    · obtain ⟨o, fs, ho, hd⟩ := hitx; exact ⟨o, ho, fun xs k q => by rw [hd] at q; cases q⟩
  | cons cc r ih =>
    intro i e s₀ s g hdr hlen I hen hit hge hgi hsince hys
    obtain ⟨old, hen⟩ := hen
    have hlt : i < l.length := by simp only [List.length_cons] at hlen; omega
    have hli : l[i]? = some cc := by
      have := congrArg (fun l : List Nat => l[0]?) hdr
      simpa using this
    have hdr' : l.drop (i + 1) = r := by rw [← List.tail_drop, hdr]; rfl
    refine seg_turn (wpAny_pyNext_enum_itemD D hen hit (by rw [hsz]; exact hlt) hne (by simpa using hne) fun x h1 tk hP hout hit1 hT hsz1 hk1 => ?_)
    obtain ⟨c, u, hc, rfl⟩ := hP
    have hcc : c = cc := by
      have h1 : l[i]? = some c := by simpa [S] using hc
      rw [hli] at h1; exact (Option.some.inj h1).symm
    subst hcc
    refine wpAny_letOwnedTupleGo_enum (s := { s with heap := h1, toks := tk + 1 }) hout fun h2 hen2 hsb2 => ?_
    obtain ⟨m0, ρ0, hn0, _⟩ := id I.vals
    have hlocs : ∃ o, s.heap.get? env.locals = some o := let ⟨o, _, _, ho, _⟩ := hn0; ⟨o, ho⟩
    have hTnone : s.heap.get? s.heap.objs.size = none := get?_none_of_size (Nat.le_refl _)
    have hTe : s.heap.objs.size ≠ en := Nat.ne_of_gt (Heap.lt_size hen)
    have hT2 : h2.get? s.heap.objs.size = some (tupO [.int (i : Int) tk, .str ⟨#[c]⟩ u] 0) := hsb2.extBut _ _ hTe hT
    have hk2 : ∀ b o, b ≠ en → b ≠ it → s.heap.get? b = some o → h2.get? b = some o := fun b o hb1 hb2 e => hsb2.extBut b o hb1 (hk1 b o hb1 hb2 e)
    have hW2 : Wf h₁ { s with heap := h2, toks := tk + 1 } (g.add s.heap.objs.size (tupO [.int (i : Int) tk, .str ⟨#[c]⟩ u] 0)) := by
      refine ⟨fun a o e => ?_, fun a o e => Gh.add_le I.wf.sub hTnone _ a o (I.wf.base a o e)⟩
      by_cases ha : a = s.heap.objs.size
      · subst ha; rw [Gh.add_self] at e; cases e; exact hT2
      · rw [Gh.add_other ha] at e
        exact hk2 a o (fun q => by rw [q, hge] at e; cases e) (fun q => by rw [q, hgi] at e; cases e) (I.wf.sub a o e)
    have hg2 : ∀ b, (∃ o, s.heap.get? b = some o) → g b = none → (g.add s.heap.objs.size (tupO [.int (i : Int) tk, .str ⟨#[c]⟩ u] 0)) b = none := fun b ⟨o, ho⟩ hb => by
      rw [Gh.add_other (ne_of_get ho hTnone)]; exact hb
    have hit0 : ∃ o, s.heap.get? it = some o := let ⟨o, ho, _⟩ := hit; ⟨o, ho⟩
    have I2 := I.resume (s'' := { s with heap := h2, toks := tk + 1 }) (flat_sI rfl) hcells (fun o h => hk2 _ o hCe hCi h) hW2 (hg2 _ hlocs I.locG)
    have hs2 : Since own s { s with heap := h2, toks := tk + 1 } := Since.heapOnly fun b o hb e => hk2 b o (fun q => hb (by rw [hown, q]; simp)) (fun q => hb (by rw [hown, q]; simp)) e
    have hit2 : h2.IsStrIter it "str_ascii_iterator" (S l) t (i + 1) := hit1.extBut hsb2.extBut (Ne.symm hne)
    generalize hgg : g.add s.heap.objs.size (tupO [.int (i : Int) tk, .str ⟨#[c]⟩ u] 0) = g2 at hW2 hg2 I2
    have hge2 : g2 en = none := hg2 _ ⟨_, hen⟩ hge
    have hgi2 : g2 it = none := hg2 _ hit0 hgi
    have hRd : Rd g2 (.ref s.heap.objs.size) (.tuple [.int (i : Int), tx [c]]) := by
      rw [← hgg]
      exact .tuple (Gh.add_self _ _ _) (.cons (.int _ _) (.cons (.str _ _) .nil))
    refine wpAny_mono ((AsgE.pair (σ := sI l (i - 1) e .unset) (σ' := sI l i e .unset) (σ'' := sI l i e (tx [c])) (sc := fScope (stm 1)) (by walk_at "m set") (by walk_at "m set") (by decide +kernel) (by decide +kernel)) _ (fun _ _ => False) env _ _ g2 _ rm.handled hsc I2 hRd) (fun _ s3 I3 => ?_) fun _ _ x => x
    have hs3 : Since own s s3 := hs2.trans (I3.since hW2 hCo)
    have hwk : ∀ e' d, Weak (sI l i e' d) (sI l i e' .unset) := fun e' d => .same (.same (.same (.drop .nil)))
    -- what is left of the iterators behind any statements
    have after : ∀ s4 g4 e' d, Inv h₁ env (sI l i e' d) (Fx.seg { s with heap := h2, toks := tk + 1 } g2 env.locals) s4 g4 → IsEnum s4.heap en it ((i + 1 : Nat) : Int) (.str ⟨#[c]⟩ u) ∧ s4.heap.IsStrIter it "str_ascii_iterator" (S l) t (i + 1) ∧ g4 en = none ∧ g4 it = none := by
      intro s4 g4 e' d I4
      obtain ⟨a1, a2⟩ := I4.seg_kept (Ne.symm hCe) hge2 hen2
      obtain ⟨oi, hoi, hri⟩ := hit2
      obtain ⟨b1, b2⟩ := I4.seg_kept (Ne.symm hCi) hgi2 hoi
      exact ⟨by rw [show ((i + 1 : Nat) : Int) = (i : Int) + 1 by omega]; exact a1, ⟨oi, b1, hri⟩, a2, b2⟩
    have hcase : (e = false ∧ c = 92) ∨ ∃ text, ((e = true ∧ text = [92] ++ [c]) ∨ (e = false ∧ c ≠ 92 ∧ text = [c])) ∧ esc i e (c :: r) = (i, text) :: esc (i + 1) false r := by
      cases e with
      | true => exact .inr ⟨_, .inl ⟨rfl, rfl⟩, rfl⟩
      | false =>
        by_cases h : c = 92
        · exact .inl ⟨rfl, h⟩
        · exact .inr ⟨_, .inr ⟨rfl, h, rfl⟩, by rw [esc, if_neg h]⟩
    have ow : Own env (Fx.seg { s with heap := h2, toks := tk + 1 } g2 env.locals) := own_gen hsc hcells
    rcases hcase with ⟨rfl, rfl⟩ | ⟨text, hct, hesc⟩
    · have hesc : esc i false (92 :: r) = esc (i + 1) true r := by rw [esc, if_pos rfl]
      rw [hesc] at hys ⊢
      refine body_quiet hsc rm ow I3 fun s4 g4 I4 => ?_
      obtain ⟨a1, a2, a3, a4⟩ := after s4 g4 _ _ I4
      have I5 := (I4.weak (hwk _ _)).resume (flat_sI rfl) hcells (fun o h => h) I4.wf I4.locG
      exact seg_again rfl (ih (i + 1) true s₀ s4 g4 hdr' (by simp only [List.length_cons] at hlen; omega) I5 ⟨_, a1⟩ a2 a3 a4 (hsince.trans (hs2.trans (I4.since hW2 hCo))) hys)
    · rw [hesc] at hys ⊢
      rw [List.length_cons]
      have hlive3 : ∀ b ∈ own, ∃ o, s3.heap.get? b = some o ∧ ∀ xs k, o.data ≠ .seq xs k := by
        obtain ⟨m3, ρ3, hn3, _⟩ := id I3.vals
        obtain ⟨a1, a2, _⟩ := after s3 g2 _ _ I3
        exact live s3 m3 (i + 1) _ _ hn3 a1 a2
      obtain ⟨done, hdone⟩ := hys
      refine body_yield hsc rm I3 hct hcells hCo rfl rfl rfl ?_ (hsince.trans hs3) hlive3 fun s'' g'' s4 g4 hkeep hgn hW'' I4 => ?_
      · rw [hdone, List.length_append, List.length_cons, show done.length + ((esc (i + 1) false r).length + 1) - 1 - (esc (i + 1) false r).length = done.length by omega, List.getElem?_append_right (Nat.le_refl _)]
        simp
      · obtain ⟨a1, a2, _, _⟩ := after s3 g2 _ _ I3
        have hown' : ∀ b ∈ own, b ≠ env.locals → ∀ o, s3.heap.get? b = some o → s4.heap.get? b = some o ∧ g4 b = none := fun b hb hbl o ho => I4.seg_kept hbl (hgn b hb) (hkeep b hb o ho)
        have hen_own : en ∈ own := by rw [hown]; simp
        have hit_own : it ∈ own := by rw [hown]; simp
        obtain ⟨b1, b2⟩ := hown' en hen_own (Ne.symm hCe) _ a1
        obtain ⟨oi, hoi, hri⟩ := a2
        obtain ⟨d1, d2⟩ := hown' it hit_own (Ne.symm hCi) _ hoi
        have I5 := (I4.weak (hwk _ _)).resume (flat_sI rfl) hcells (fun o h => h) I4.wf I4.locG
        refine seg_again rfl (ih (i + 1) false s'' s4 g4 hdr' (by simp only [List.length_cons] at hlen; omega) I5 ⟨_, b1⟩ ⟨oi, d1, hri⟩ b2 d2 (I4.since hW'' hCo) ⟨done ++ [(i, text)], by rw [hdone]; simp⟩)
end
end Mine
end

-- part MGen5
section

open PySem PySem.W PyProof.Rows
set_option linter.unusedVariables false
set_option maxRecDepth 100000
namespace Mine


section
variable {prog : Program} {w : World} {h₁ : Heap} {mg mb : Str → Option Value} {n : Nat} {σ : List (Str × D)}
variable {A : Around} {env : Env}

theorem room_func {b : List Stmt} (r : Room (n + 1) A) : Room n (A.over (.func b env) []) where
  handled := r.handled
  depth := by have := r.depth; show A.depth + 0 + 1 + n ≤ 600; omega
  units := by have := r.units; show A.units + 0 + 3 + 10 * n ≤ 5000; omega
theorem room_loop {b b' : List Stmt} {t : Expr} {v : Value} {k : Result → Sem Fin} {p : Pos} (r : Room (n + 1) A) : Room n (A.over (.forLoop t v b' [] env) [.ret k none false [] (.func b env) p []]) where
  handled := r.handled
  depth := by have := r.depth; show A.depth + (1 + 0) + 0 + n ≤ 600; omega
  units := by have := r.units; show A.units + (3 + 0) + 0 + 10 * n ≤ 5000; omega

/-- the generator's run, whole -/
theorem iter_seg (B : Bs h₁ mg mb) (henum : Glob mg mb (Str.ofString "enumerate") (.type "enumerate")) {l : List Nat} {t : Tok} {s : Shared} {g : Gh} {m : Str → Option Value} (hl : ∀ c ∈ l, c < 128)
    (hsc : env.scope = fScope (stm 1)) (gl : env.globals = mainGlobals) (bl : env.builtins = builtinsNs) (hcells : env.cells = []) (hW : Wf h₁ s g) (hn : s.heap.Ns env.locals m) (hm : m (Str.ofString "addr") = some (.str (S l) t)) (hgC : g env.locals = none)
    (rm : Room 1 A) :
    Seg (model prog w) A (Rp [env.locals, s.heap.objs.size + 1, s.heap.objs.size]) (Yp h₁ [env.locals, s.heap.objs.size + 1, s.heap.objs.size] (esc 0 false l)) (esc 0 false l).length s (.func (fBody (stm 1)) env) ((model prog w).den (.func (fBody (stm 1)) env)) [] s := by
  generalize hown : [env.locals, s.heap.objs.size + 1, s.heap.objs.size] = own
  have hCo : env.locals ∈ own := by rw [← hown]; simp
  have fn : env.scope.kind = .function := by rw [hsc]; rfl
  have hp : (env.scope.kind == .class || (env.scope.kind == .module && env.locals != env.globals)) = false := by rw [fn]; rfl
  have kind : ∀ x, (fScope (stm 1)).names.lookup x = some .local → env.kindOf x = some .local := fun x h => by show env.scope.names.lookup x = _; rw [hsc]; exact h
  have rm1 : Room 0 (A.over (.func (fBody (stm 1)) env) []) := room_func rm
  refine seg_func ?_
  conv => arg 8; arg 5; arg 1; whnf
  -- pos = 0; escape = False
  refine seg_execs_cons (seg_wrap (wpAny_Assign_Name (wpAny_Constant_int (wpAny_storeName_local (kind (Str.ofString "pos") (by decide +kernel)) hn (fun h2 hn2 hs2 => ?_) hp)) rfl))
  refine seg_execs_cons (seg_wrap (wpAny_Assign_Name (wpAny_Constant_bool (wpAny_storeName_local (s := { s with heap := h2, toks := s.toks + 1 + 1 }) (kind (Str.ofString "escape") (by decide +kernel)) hn2 (fun h3 hn3 hs3 => ?_) hp)) rfl))
  have hk3 : ∀ b o, b ≠ env.locals → s.heap.get? b = some o → h3.get? b = some o := fun b o hb e => hs3.extBut b o hb (hs2.extBut b o hb e)
  have hsz3 : h3.objs.size = s.heap.objs.size := hs3.1.trans hs2.1
  have hW3 : Wf h₁ { s with heap := h3, toks := s.toks + 1 + 1 + 1 } g := ⟨fun a o e => hk3 a o (fun q => by rw [q, hgC] at e; cases e) (hW.sub a o e), hW.base⟩
  have I3 : Inv h₁ env (sI l 0 false .unset) (Fx.seg { s with heap := h3, toks := s.toks + 1 + 1 + 1 } g env.locals) { s with heap := h3, toks := s.toks + 1 + 1 + 1 } g := by
    refine Inv.flatStart hW3 fn gl bl hcells hgC (by show List.Nodup [Str.ofString "addr", Str.ofString "pos", Str.ofString "escape", Str.ofString "ch"]; decide +kernel) _ hn3
      (fun x => if x = Str.ofString "escape" then .bool false else if x = Str.ofString "pos" then .int 0 s.toks else .str (S l) t) (fun x d hx => ?_)
    simp only [List.mem_cons, List.not_mem_nil, or_false, Prod.mk.injEq] at hx
    rcases hx with ⟨rfl, rfl⟩ | ⟨rfl, rfl⟩ | ⟨rfl, rfl⟩ | ⟨rfl, rfl⟩
    · refine ⟨rfl, fun _ => ⟨kind _ (by decide +kernel), ?_, ?_⟩⟩
      · rw [if_neg (by decide +kernel), if_neg (by decide +kernel), if_neg (by decide +kernel), if_neg (by decide +kernel)]; exact hm
      · rw [if_neg (by decide +kernel), if_neg (by decide +kernel)]; exact .str _ _
    · refine ⟨rfl, fun _ => ⟨kind _ (by decide +kernel), ?_, ?_⟩⟩
      · rw [if_neg (by decide +kernel), if_pos rfl, if_neg (by decide +kernel), if_pos rfl]
      · rw [if_neg (by decide +kernel), if_pos rfl]; exact .int _ _
    · refine ⟨rfl, fun _ => ⟨kind _ (by decide +kernel), ?_, ?_⟩⟩
      · rw [if_pos rfl, if_pos rfl]
      · rw [if_pos rfl]; exact .bool _
    · exact ⟨rfl, fun h => absurd rfl h⟩
  have hs03 : Since own s { s with heap := h3, toks := s.toks + 1 + 1 + 1 } := Since.heapOnly fun b o hb e => hk3 b o (fun q => hb (q ▸ hCo)) e
  refine seg_For (fun _ => rfl) ?_
  show wpAny _ _ (eval (.Name (Str.ofString "enumerate") _) env >>= fun v => callWith _ v [] (backTo _ (starEach [.Name (Str.ofString "addr") _] env)) []) _ _ _
  refine wpAny_bind (name_glob B I3 (by rw [hsc]; decide +kernel) henum ?_ (by decide +kernel))
  have haddr : HasVal env (fun x => if x = Str.ofString "escape" then some (.bool false) else if x = Str.ofString "pos" then some (.int 0 s.toks) else m x) h3 (Str.ofString "addr") (.str (S l) t) :=
    .inl ⟨kind _ (by decide +kernel), by dsimp only; rw [if_neg (by decide +kernel), if_neg (by decide +kernel)]; exact hm⟩
  refine PySem.callWith_type (args_any _ _ rfl) (evalArgs_of (wpAny_items_cons (wpAny_Name (loadName_of fn hn3 haddr (wpAny_items_nil ?_) (by decide +kernel)) (by decide +kernel)) rfl) rfl)
  refine call_enumerate_str fun h4 hen4 hit4 hsz4 hk4 => ?_
  have hst : strIterType (S l) = "str_ascii_iterator" := by
    unfold strIterType
    rw [if_pos]
    rw [← Array.all_toList, S_toList, List.all_eq_true]
    exact fun c hc => by simpa using hl c hc
  rw [hst] at hit4
  rw [hsz3] at hen4 hit4
  rw [hsz3]
  refine wpAny_pyIter_enum hen4 fun p => ?_
  have hC4 : ∃ o, s.heap.get? env.locals = some o := let ⟨o, _, _, ho, _⟩ := hn; ⟨o, ho⟩
  have hClt : env.locals < s.heap.objs.size := let ⟨o, ho⟩ := hC4; Heap.lt_size ho
  have hW4 : Wf h₁ { s with heap := h4, toks := s.toks + 1 + 1 + 1 } g := ⟨fun a o e => hk4 a o (hW3.sub a o e), hW.base⟩
  have I4 := I3.resume (s'' := { s with heap := h4, toks := s.toks + 1 + 1 + 1 }) (flat_sI rfl) hcells (fun o h => hk4 _ o h) hW4 hgC
  have hnone : ∀ b, s.heap.get? b = none → g b = none := fun b hb => none_g hW.sub hb
  have hs04 : Since own s { s with heap := h4, toks := s.toks + 1 + 1 + 1 } := hs03.trans (Since.heapOnly fun b o _ e => hk4 b o e)
  refine loop_seg (n := 0) (l := l) hsc hcells hown.symm (Nat.succ_ne_self _) (Nat.ne_of_lt (Nat.lt_succ_of_lt hClt)) (Nat.ne_of_lt hClt) (room_loop rm) ?_ l 0 false s _ g (List.drop_zero) (by simp) I4 ⟨_, hen4⟩ hit4 (hnone _ (get?_none_of_size (Nat.le_succ _))) (hnone _ (get?_none_of_size (Nat.le_refl _))) hs04 ⟨[], rfl⟩
  -- behind the loop
  intro e s₀ s5 g5 hsince hlive I5 hys
  show Seg _ A _ _ _ s₀ _ ((execs _ env).wrap _ _ _ _) [] s5
  refine seg_If (σ := sI l (l.length - 1) e .unset) (sc := fScope (stm 1)) (bo := e) ?tst rm1 hsc I5 fun s6 g6 G6 I6 => ?_
  case tst =>
    refine EvB.val (d := .bool e) ?_ TruE.bool (by intro _ _; rfl)
    repeat' walk_at "m ev"
  cases e with
  | false =>
    rw [if_neg Bool.false_ne_true]
    exact seg_end (.ok (.ret .none)) ⟨rfl, rfl, hsince.trans G6.since⟩
  | true =>
    rw [if_pos rfl]
    refine seg_yield_pair (d1 := .int ((l.length - 1 : Nat) : Int)) (d2 := tx [92]) ?elt rm1 hsc I6 rfl rfl rfl (by rw [hsc]; rfl) (by have h := hsc; cases env; cases h; rfl) fun s7 g7 a vs G7 I7 hna ht hr kap hk => ?_
    case elt =>
      repeat' walk_at "m ev"
    obtain ⟨done, hdone⟩ := hys
    have hs7 : Since own s₀ s7 := hsince.trans (G6.trans G7).since
    cases hr with | cons r1 r2 =>
    cases r2 with | cons r2 r3 =>
    cases r3
    cases r1; cases r2
    refine ⟨⟨a, l.length - 1, [92], _, _, 0, ?_, rfl, ?_, ht, fun q => ?_⟩, hs7, fun b hb => let ⟨o, h1, h2⟩ := hlive b hb; ⟨o, (G6.trans G7).keep b o h1, h2⟩, fun s'' g'' hW'' hkeep hgn => hk s'' ?_⟩
    · rw [hdone]
      show (done ++ [(l.length - 1, [92])])[(done ++ [(l.length - 1, [92])]).length - 1 - 0]? = _
      simp
    · cases q : s₀.heap.get? a with
      | none => rfl
      | some o =>
        by_cases hb : a ∈ own
        · obtain ⟨o', h1, _⟩ := hlive a hb
          have := G6.keep _ _ h1; rw [hna] at this; cases this
        · have := G6.keep _ _ (hsince.heap a o hb q); rw [hna] at this; cases this
    · obtain ⟨o', h1, _⟩ := hlive a q
      have := G6.keep _ _ h1; rw [hna] at this; cases this
    · exact seg_end (.ok (.ret .none)) ⟨rfl, rfl, Since.refl _ _⟩
end
end Mine
end

-- part MGen6
section

open PySem PySem.W PyProof.Rows
set_option linter.unusedVariables false
set_option maxRecDepth 100000
namespace Mine

section
variable {prog : Program} {w : World} {h₁ : Heap} {mg mb : Str → Option Value} {n : Nat} {sc : Scope} {σ σ' : List (Str × D)} {env : Env}

/-- the same names seen from other surroundings, after a step that changes none of their objects -/
theorem Inv.rebase {F F' : Fx} {s s' : Shared} {g g' : Gh} {own : List Addr} (I : Inv h₁ env σ F s g) (ow : Own env F) (hW : Wf h₁ s' g') (hG : Grow F'.s₀ F'.g₀ s' g')
    (hs0 : ∀ b, F.s₀.heap.get? b = none → F'.s₀.heap.get? b = none) (hav : ∀ b ∈ own, (F.K b).isSome = true ∨ s.heap.get? b = none)
    (keep : ∀ b o, b ∉ own → s.heap.get? b = some o → s'.heap.get? b = some o) (gold : ∀ b o, b ∉ own → s.heap.get? b = some o → g' b = g b)
    (hK : ∀ b, b ∉ own → (∃ o, s.heap.get? b = some o) → F.K b = none → F'.K b = none) (prot : ∀ a o, F'.K a = some o → s'.heap.get? a = some o) (protN : ∀ a o, F'.K a = some o → g' a = none)
    (protG : ∀ (i : Nat) (st : GenState), F'.Kg i = some st → s'.gens[i]? = some st) (protF : ∀ a o, F'.Gp a = some o → g' a = some o) : Inv h₁ env σ F' s' g' ∧ Own env F' := by
  obtain ⟨m, ρ, hn, hv, hm⟩ := I.vals
  have nown : ∀ b, (∃ o, s.heap.get? b = some o) → F.K b = none → b ∉ own := fun b ⟨o, ho⟩ hb q => by
    rcases hav b q with h | h
    · rw [hb] at h; cases h
    · rw [ho] at h; cases h
  have hloc : ∃ o, s.heap.get? env.locals = some o := let ⟨o, _, _, ho, _⟩ := hn; ⟨o, ho⟩
  have hlo := nown _ hloc I.loc0.2
  have gle : ∀ a o, g a = some o → g' a = some o := fun a o e => by
    have h1 := I.wf.sub a o e
    have h2 : a ∉ own := fun q => by
      rcases hav a q with h | h
      · obtain ⟨o', ho'⟩ := Option.isSome_iff_exists.mp h
        have := I.protN a o' ho'; rw [e] at this; cases this
      · rw [h1] at h; cases h
    rw [gold a o h2 h1]; exact e
  have hcell : ∀ {x : Str} {c : Addr}, env.cells.lookup x = some c → ∀ v, s.heap.IsCell c v → c ∉ own := fun hx v ⟨o, ho, _⟩ => nown _ ⟨o, ho⟩ (ow.new _ _ hx).2
  have kcell : ∀ {x : Str} {c : Addr}, env.cells.lookup x = some c → ∀ v, s.heap.IsCell c v → s'.heap.IsCell c v := fun hx v h => by
    have hno := hcell hx v h
    obtain ⟨o, ho, hd⟩ := h
    exact ⟨o, keep _ _ hno ho, hd⟩
  refine ⟨{
    wf := hW, grow := hG, prot := prot, protG := protG, protF := protF, protN := protN, fn := I.fn, gl := I.gl, bl := I.bl
    loc0 := ⟨hs0 _ I.loc0.1, hK _ hlo hloc I.loc0.2⟩
    locG := let ⟨o, ho⟩ := hloc; (gold _ o hlo ho).trans I.locG
    cellG := fun x c hx => by
      obtain ⟨h1, v, h2⟩ := I.cellG x c hx
      have hno := hcell hx v h2
      refine ⟨?_, v, kcell hx v h2⟩
      obtain ⟨o, ho, _⟩ := h2
      exact (gold _ o hno ho).trans h1
    cellInj := I.cellInj
    nodup := I.nodup
    vals := ⟨m, ρ, (let ⟨o, es, ep, ho, r⟩ := hn; ⟨o, es, ep, keep _ _ hlo ho, r⟩), fun x d hx => ⟨fun hu => ?_, ?_⟩, hm⟩ }, ⟨fun x c hx => ?_, ow.has⟩⟩
  · rcases (hv x d hx).1 hu with h | ⟨h, c, hc, hcv⟩
    · exact .inl h
    · exact .inr ⟨h, c, hc, kcell hc _ hcv⟩
  · have hb := (hv x d hx).2
    cases d with
    | mlist xs =>
      obtain ⟨a, vs, k, e, h0, hg, ho, hr⟩ := hb
      have hno := nown a ⟨_, ho⟩ h0.2
      exact ⟨a, vs, k, e, ⟨hs0 _ h0.1, hK _ hno ⟨_, ho⟩ h0.2⟩, (gold _ _ hno ho).trans hg, keep _ _ hno ho, hr.mono gle⟩
    | unset => trivial
    | _ => exact Rd.mono gle hb
  · obtain ⟨h1, v, h2⟩ := I.cellG x c hx
    have hno := hcell hx v h2
    obtain ⟨o, ho, _⟩ := h2
    exact ⟨hs0 _ (ow.new x c hx).1, hK _ hno ⟨o, ho⟩ (ow.new x c hx).2⟩

/-- the consumer's surroundings while the generator waits -/
noncomputable def Fx.gen (F : Fx) (s : Shared) (g : Gh) (ow : List Addr) : Fx :=
  { s₀ := { F.s₀ with gens := s.gens }, g₀ := F.g₀, K := fun b => if b ∈ ow then s.heap.get? b else F.K b, Kg := F.Kg, Gp := g }

theorem setGen_other {s : Shared} {i j : Nat} {x : GenState} (h : j ≠ i) : (s.setGen i x).gens[j]? = s.gens[j]? := by
  simp [Shared.setGen, Ne.symm h]
theorem room_in1 {A : Around} (r : Room (n + 2) A) : Room 1 A.in1 where
  handled := r.handled
  depth := by have := r.depth; show A.depth + 1 ≤ 600; omega
  units := by have := r.units; show A.units + 1 + 10 * 1 ≤ 5000; omega

/-- how the consumer stands before a turn -/
structure GTurn (prog : Program) (w : World) (h₁ : Heap) (A : Around) (env : Env) (σ : List (Str × D)) (F₀ : Fx) (own : List Addr) (ga : Addr) (gn : Nat) (ys : List (Nat × List Nat)) (i : Nat) (s : Shared) (g : Gh) : Prop where
  inv : ∃ F, Inv h₁ env σ F s g ∧ Own env F ∧ (∀ b, F.s₀.heap.get? b = none ↔ F₀.s₀.heap.get? b = none) ∧ (∀ b ∈ ga :: own, (F.K b).isSome = true ∨ s.heap.get? b = none) ∧ (∀ b, b ∉ ga :: own → F.K b = F₀.K b)
  grow : ∀ b o, F₀.s₀.heap.get? b = some o → s.heap.get? b = some o
  old : ∀ b o, F₀.s₀.heap.get? b = some o → g b = F₀.g₀ b
  os : s.os = F₀.s₀.os
  gens : ∀ (j : Nat) (st : GenState), F₀.s₀.gens[j]? = some st → s.gens[j]? = some st
  bare : ∀ (j : Nat) (st : GenState), s.gens[j]? = some st → j = gn ∨ F₀.s₀.gens[j]? = some st ∨ st = .finished
  kg : ∀ (j : Nat) (st : GenState), F₀.Kg j = some st → s.gens[j]? = some st ∧ j ≠ gn
  gp : ∀ a o, F₀.Gp a = some o → g a = some o
  isgen : s.heap.IsGen ga gn
  gN : ∀ b ∈ ga :: own, g b = none
  go : ∃ gs, s.gens[gn]? = some gs ∧ gs.Goes (model prog w) A.in1 (Rp own) (Yp h₁ own ys) (ys.length - i) (.send .none) (s.setGen gn .running)
end
end Mine
end

-- part MGen7
section

open PySem PySem.W PyProof.Rows
set_option linter.unusedVariables false
set_option maxRecDepth 100000
namespace Mine

section
variable {prog : Program} {w : World} {h₁ : Heap} {mg mb : Str → Option Value} {n : Nat} {sc : Scope} {σ σ' : List (Str × D)} {env : Env}

theorem gen_loop (B : Bs h₁ mg mb) {A : Around} {E : Value → Shared → Prop} {F₀ : Fx} {own : List Addr} {ga : Addr} {gn : Nat} {ys : List (Nat × List Nat)} {target : Expr} {body : List Stmt} (σs : Nat → List (Str × D))
    (rm : Room (n + 2) A) (hsc : env.scope = sc) (hown0 : ∀ b ∈ ga :: own, F₀.s₀.heap.get? b = none ∧ F₀.K b = none) (hga : ga ∉ own) (hgn : F₀.s₀.gens[gn]? = none)
    (step : ∀ i p, ys[i]? = some p → ∃ σm, AsgE prog w h₁ sc (σs i) target (.tuple [.int (p.1 : Int), tx p.2]) σm ∧ ExL prog w h₁ (n + 2) sc σm body (.next (σs (i + 1)))) :
    ∀ (j i : Nat) (s : Shared) (g : Gh), ys.length - i = j → i ≤ ys.length → GTurn prog w h₁ A env (σs i) F₀ own ga gn ys i s g →
      codeAny (model prog w) A (.forLoop target (.ref ga) body [] env) (fun r s' => match r with | .ok f => Post h₁ env F₀ (.next (σs ys.length)) f s' | .error e => cameBackBy (model prog w) A env E e s') s := by
  intro j
  induction j with
  | zero =>
    intro i s g hj hi T
    have hi' : i = ys.length := by omega
    subst hi'
    obtain ⟨F, I, ow, hF1, hF2, hF3⟩ := T.inv
    obtain ⟨gs, hgs, hgo⟩ := T.go
    rw [Nat.sub_self] at hgo
    have hgown : ∀ b ∈ own, g b = none := fun b hb => T.gN b (List.mem_cons_of_mem _ hb)
    refine codeAny_of_tree ?_
    show wpAny _ A ((forTurn target (.ref ga) body [] env).onRaise (fun x => do noteFrame x env; theTreesLotGoes x)) _ _ s
    refine wpAny_noted ?_
    simp only [forTurn]
    refine wpAny_bind (wpAny_standAt (wpAny_bind (wpAny_onRaise ?_)))
    refine wpAny_pyNext_gen (P := fun n s₀ s₁ => n = 0 ∧ Since own s₀ s₁) rm.handled (B.nolimit.keeps I.wf.keep1) rm.depth_lt T.isgen hgs hgo (fun v s₁ gs' hy => ?_) (fun s₁ ⟨_, hs⟩ h' hk' => ?_)
    · obtain ⟨_, hs, _, hfin⟩ := hy
      exact (hfin s₁ g ⟨fun a o e => hs.heap a o (fun q => by rw [hgown a q] at e; cases e) (I.wf.sub a o e), I.wf.base⟩ (fun _ _ _ h => h) hgown).elim
    · have keepAll : ∀ b o, b ∉ own → s.heap.get? b = some o → h'.get? b = some o := fun b o hb e => hk' b o (hs.heap b o hb e)
      have hKn : ∀ b o, F₀.K b = some o → b ∉ ga :: own := fun b o e q => by rw [(hown0 b q).2] at e; cases e
      have hW : Wf h₁ { s₁.setGen gn .finished with heap := h' } g := ⟨fun a o e => keepAll a o (fun q => by rw [hgown a q] at e; cases e) (I.wf.sub a o e), I.wf.base⟩
      have hG : Grow F₀.s₀ F₀.g₀ { s₁.setGen gn .finished with heap := h' } g := {
        keep := fun a o e => keepAll a o (fun q => by rw [(hown0 a (List.mem_cons_of_mem _ q)).1] at e; cases e) (T.grow a o e)
        old := T.old
        sub := hW.sub
        os := hs.os.trans T.os
        gens := fun j st e => by
          have hj : j ≠ gn := fun q => by rw [q, hgn] at e; cases e
          show (s₁.setGen gn .finished).gens[j]? = _
          rw [setGen_other hj]
          exact hs.gens j st ((setGen_other hj).trans (T.gens j st e))
        bare := fun j st e => by
          have e : (s₁.setGen gn .finished).gens[j]? = some st := e
          by_cases hj : j = gn
          · subst hj
            have : st = .finished := by
              simp only [Shared.setGen, Array.getElem?_setIfInBounds_self] at e
              split at e
              · cases e; rfl
              · cases e
            exact .inr this
          · rw [setGen_other hj] at e
            rcases hs.bare j st e with h | h
            · rw [setGen_other hj] at h
              rcases T.bare j st h with h | h
              · exact absurd h hj
              · exact h
            · exact .inr h }
      have R := I.rebase ow (F' := F₀) (own := ga :: own) hW hG (fun b h => (hF1 b).mp h) hF2 (fun b o hb e => keepAll b o (fun q => hb (List.mem_cons_of_mem _ q)) e) (fun b o _ _ => rfl)
        (fun b hb _ h => by rw [← hF3 b hb]; exact h) (fun a o e => by
          have ha := hKn a o e
          exact keepAll a o (fun q => ha (List.mem_cons_of_mem _ q)) (I.prot a o (by rw [hF3 a ha]; exact e)))
        (fun a o e => I.protN a o (by rw [hF3 a (hKn a o e)]; exact e)) (fun j st e => by
          obtain ⟨h1, h2⟩ := T.kg j st e
          show (s₁.setGen gn .finished).gens[j]? = _
          rw [setGen_other h2]
          exact hs.gens j st ((setGen_other h2).trans h1)) T.gp
      exact wpAny_pure ⟨rfl, codeAny_block (wpAny_execs_nil ⟨g, rfl, R.1⟩)⟩
  | succ j ih =>
    intro i s g hj hi T
    have hlt : i < ys.length := by omega
    obtain ⟨m, hm⟩ : ∃ m, ys.length - i = m + 1 := ⟨ys.length - i - 1, by omega⟩
    have hmi : ys.length - 1 - m = i := by omega
    have hmi' : m = ys.length - (i + 1) := by omega
    obtain ⟨F, I, ow, hF1, hF2, hF3⟩ := T.inv
    obtain ⟨gs, hgs, hgo⟩ := T.go
    rw [hm] at hgo
    have hgown : ∀ b ∈ own, g b = none := fun b hb => T.gN b (List.mem_cons_of_mem _ hb)
    refine codeAny_of_tree ?_
    show wpAny _ A ((forTurn target (.ref ga) body [] env).onRaise (fun x => do noteFrame x env; theTreesLotGoes x)) _ _ s
    refine wpAny_noted ?_
    simp only [forTurn]
    refine wpAny_bind (wpAny_standAt (wpAny_bind (wpAny_onRaise ?_)))
    refine wpAny_pyNext_gen (P := fun n s₀ s₁ => n = 0 ∧ Since own s₀ s₁) rm.handled (B.nolimit.keeps I.wf.keep1) rm.depth_lt T.isgen hgs hgo (fun v s₁ gs' hy => ?_) (fun s₁ ⟨h0, _⟩ h' hk' => absurd h0 (Nat.succ_ne_zero m))
    obtain ⟨⟨a, pos, text, t, u, k, hyi, rfl, hna, hta, haown⟩, hs, hlive, hkap⟩ := hy
    rw [show m + 1 - 1 = m from rfl, hmi] at hyi
    have hna : s.heap.get? a = none := hna
    have keepAll : ∀ b o, b ∉ own → s.heap.get? b = some o → s₁.heap.get? b = some o := fun b o hb e => hs.heap b o hb e
    obtain ⟨og, nm, qn, hog, hgc, hgd, hgsl⟩ := T.isgen
    have hog1 : s₁.heap.get? ga = some og := keepAll _ _ hga hog
    have hage : a ≠ ga := fun q => by rw [q, hog] at hna; cases hna
    have hKn : ∀ b o, F₀.K b = some o → b ∉ ga :: own := fun b o e q => by rw [(hown0 b q).2] at e; cases e
    let s' := s₁.setGen gn gs'
    let tp := tupO [Value.int ((pos : Nat) : Int) t, Value.str (S text) u] k
    have gne : ∀ b o, s.heap.get? b = some o → (g.add a tp) b = g b := fun b o e => Gh.add_other (ne_of_get e hna)
    have hW : Wf h₁ s' (g.add a tp) := by
      refine ⟨fun b o e => ?_, fun b o e => Gh.add_le I.wf.sub hna _ b o (I.wf.base b o e)⟩
      by_cases hb : b = a
      · subst hb; rw [Gh.add_self] at e; cases e; exact hta
      · rw [Gh.add_other hb] at e
        exact keepAll b o (fun q => by rw [hgown b q] at e; cases e) (I.wf.sub b o e)
    have hG : Grow (F₀.gen s' (g.add a tp) (ga :: own)).s₀ (F₀.gen s' (g.add a tp) (ga :: own)).g₀ s' (g.add a tp) := {
      keep := fun b o e => keepAll b o (fun q => by have e : F₀.s₀.heap.get? b = some o := e; rw [(hown0 b (List.mem_cons_of_mem _ q)).1] at e; cases e) (T.grow b o e)
      old := fun b o e => (gne b o (T.grow b o e)).trans (T.old b o e)
      sub := hW.sub
      os := hs.os.trans T.os
      gens := fun _ _ e => e
      bare := fun _ _ e => .inl e }
    have hsK : ∀ b, (F₀.gen s' (g.add a tp) (ga :: own)).K b = if b ∈ ga :: own then s₁.heap.get? b else F₀.K b := fun _ => rfl
    have R := I.rebase ow (F' := F₀.gen s' (g.add a tp) (ga :: own)) (own := ga :: own) hW hG (fun b h => (hF1 b).mp h) hF2 (fun b o hb e => keepAll b o (fun q => hb (List.mem_cons_of_mem _ q)) e) (fun b o _ e => gne b o e)
        (fun b hb _ h => by rw [hsK, if_neg hb, ← hF3 b hb]; exact h) (fun b o e => by
          rw [hsK] at e
          split at e
          · exact e
          · rename_i hb
            exact keepAll b o (fun q => hb (List.mem_cons_of_mem _ q)) (I.prot b o (by rw [hF3 b hb]; exact e)))
        (fun b o e => by
          rw [hsK] at e
          split at e
          · rename_i hb
            have : b ≠ a := fun q => by
              rcases List.mem_cons.mp hb with h | h
              · exact hage (q ▸ h)
              · exact haown (q ▸ h)
            rw [Gh.add_other this]; exact T.gN b hb
          · rename_i hb
            have e' : F.K b = some o := by rw [hF3 b hb]; exact e
            exact (gne b o (I.prot b o e')).trans (I.protN b o e')) (fun j st e => by
          obtain ⟨h1, h2⟩ := T.kg j st e
          show (s₁.setGen gn gs').gens[j]? = _
          rw [setGen_other h2]
          exact hs.gens j st ((setGen_other h2).trans h1)) (fun _ _ e => e)
    obtain ⟨I', ow'⟩ := R
    refine wpAny_bind (wpAny_letOwned (s := s') hog1 hgd hgc (by decide) ?_)
    obtain ⟨σm, hasg, hbody⟩ := step i _ hyi
    have hr : Rd (g.add a tp) (.ref a) (.tuple [.int ((pos : Nat) : Int), tx text]) := .tuple (Gh.add_self _ _ _) (.cons (.int _ _) (.cons (.str _ _) .nil))
    refine wpAny_bind (wpAny_mono (hasg A _ env _ s' _ _ rm.handled hsc I' hr) (fun _ s₃ I₃ => ?_) fun _ _ x => x)
    refine wpAny_bind (wpAny_mono (hbody A _ env _ s₃ _ rm hsc ow' I₃) (fun f s₄ hp => ?_) fun _ _ x => x)
    obtain ⟨g4, rfl, I₄⟩ := hp
    have hK4 : ∀ b ∈ ga :: own, ∀ o, s₁.heap.get? b = some o → s₄.heap.get? b = some o ∧ g4 b = none := fun b hb o e => by
      have : (F₀.gen s' (g.add a tp) (ga :: own)).K b = some o := by rw [hsK, if_pos hb]; exact e
      exact ⟨I₄.prot b o this, I₄.protN b o this⟩
    have hown1 : ∀ b ∈ ga :: own, ∃ o, s₁.heap.get? b = some o := fun b hb => by
      rcases List.mem_cons.mp hb with rfl | h
      · exact ⟨_, hog1⟩
      · exact (hlive b h).imp fun _ x => x.1
    have hgN4 : ∀ b ∈ ga :: own, g4 b = none := fun b hb => let ⟨o, ho⟩ := hown1 b hb; (hK4 b hb o ho).2
    have hrun : (s.setGen gn .running).gens[gn]? = some .running := setGen_self hgs
    have hself : s'.gens[gn]? = some gs' := setGen_self (hs.gens gn _ hrun)
    refine wpAny_pure ⟨rfl, ih (i + 1) s₄ g4 (by omega) hlt {
      inv := ⟨_, I₄, ow', fun b => Iff.rfl, fun b hb => .inl (by
        obtain ⟨o, ho⟩ := hown1 b hb
        rw [hsK, if_pos hb, ho]; rfl), fun b hb => by rw [hsK, if_neg hb]⟩
      grow := fun b o e => I₄.grow.keep b o e
      old := fun b o e => I₄.grow.old b o e
      os := I₄.grow.os
      gens := fun j st e => I₄.grow.gens j st (by
        have hj : j ≠ gn := fun q => by rw [q, hgn] at e; cases e
        show (s₁.setGen gn gs').gens[j]? = _
        rw [setGen_other hj]
        exact hs.gens j st ((setGen_other hj).trans (T.gens j st e)))
      bare := fun j st e => by
        rcases I₄.grow.bare j st e with h | h
        · by_cases hj : j = gn
          · exact .inl hj
          · have h : (s₁.setGen gn gs').gens[j]? = some st := h
            rw [setGen_other hj] at h
            rcases hs.bare j st h with h | h
            · rw [setGen_other hj] at h; exact T.bare j st h
            · exact .inr (.inr h)
        · exact .inr (.inr h)
      kg := fun j st e => ⟨I₄.protG j st e, (T.kg j st e).2⟩
      gp := fun b o e => I₄.protF b o ((gne b o (I.wf.sub b o (T.gp b o e))).trans (T.gp b o e))
      isgen := ⟨og, nm, qn, (hK4 ga (List.mem_cons_self ..) og hog1).1, hgc, hgd, hgsl⟩
      gN := hgN4
      go := ⟨gs', I₄.grow.gens gn gs' hself, ?_⟩ }⟩
    have := hkap (s₄.setGen gn .running) g4 ⟨I₄.wf.sub, I₄.wf.base⟩ (fun b hb o e => (hK4 b (List.mem_cons_of_mem _ hb) o e).1) (fun b hb => hgN4 b (List.mem_cons_of_mem _ hb))
    rw [← hmi']
    exact this
end
end Mine
end

-- part MGen8
section

open PySem PySem.W PyProof.Rows
set_option linter.unusedVariables false
set_option maxRecDepth 100000
namespace Mine

section
variable {prog : Program} {w : World} {h₁ : Heap} {mg mb : Str → Option Value} {n : Nat} {sc : Scope} {σ σ' : List (Str × D)}

theorem push_other {s : Array GenState} {x : GenState} {j : Nat} {st : GenState} (h : s[j]? = some st) : (s.push x)[j]? = some st := by
  have hlt : j < s.size := by
    rcases Nat.lt_or_ge j s.size with h' | h'
    · exact h'
    · rw [Array.getElem?_eq_none h'] at h; cases h
  rw [Array.getElem?_push, if_neg (Nat.ne_of_lt hlt)]; exact h

/-- for target in _iter_escaped_chars(e) -/
theorem ExS.for_esc (B : Bs h₁ mg mb) (henum : Glob mg mb (Str.ofString "enumerate") (.type "enumerate")) {a : Addr} (hf : FnAt h₁ mg 1 a) {f : Str} {fp cp pos : Pos} {target e : Expr} {body : List Stmt} {l : List Nat} (hl : ∀ c ∈ l, c < 128)
    (hname : fName (stm 1) = f) (hk : sc.names.lookup f = some .globalImplicit) (hdb : dbg f = false) (he : ∀ env, starEach [e] env = [(false, eval e env)]) (ha : EvE prog w h₁ (n + 2) sc σ e (tx l))
    (σs : Nat → List (Str × D)) (hσ : σs 0 = σ)
    (step : ∀ i p, (esc 0 false l)[i]? = some p → ∃ σm, AsgE prog w h₁ sc (σs i) target (.tuple [.int (p.1 : Int), tx p.2]) σm ∧ ExL prog w h₁ (n + 2) sc σm body (.next (σs (i + 1)))) :
    ExS prog w h₁ (n + 2) sc σ (.For target (.Call (.Name f fp) [e] [] cp) body [] pos) (.next (σs (esc 0 false l).length)) := fun A E env F s g rm hsc ow I => by
  obtain ⟨o, pm, cd, doc, ho, hd, hcd⟩ := hf.obj
  refine wpAny_For ?_ (by intro _; rfl)
  show wpAny _ A (eval (.Name f fp) env >>= fun v => callWith cp v [] (backTo cp (starEach [e] env)) []) _ E s
  refine wpAny_bind (name_glob B I (hsc ▸ hk) (.inl (hname ▸ hf.glob)) ?_ (Bool.or_eq_false_iff.mp hdb).1)
  have hev : EvL prog w h₁ (n + 2) sc σ [e] [tx l] := EvL.cons ha EvL.nil he
  refine Calls.callWith_function (o := o) (evalArgs_of (wpAny_mono (hev A E env F s g cp rm hsc I) (fun vs s₁ ⟨g₁, G₁, r₁⟩ => ⟨⟨(I.grow' G₁).wf.keep1 _ _ ho, hd⟩, ?_⟩) fun _ _ x => x) (he env))
  have I₁ := I.grow' G₁
  cases r₁ with | cons r1 r2 =>
  cases r2
  cases r1 with | str x t =>
  refine wpAny_call (codeAny_call_generator (body := fBody (stm 1)) rm.depth_lt (I₁.wf.keep1 _ _ ho) hd (by rfl) (by rfl) rfl (hcd.keeps I₁.wf.keep1) ?_)
  refine wpAny_of_eq (a := [(Str.ofString "addr", Value.str (S l) t)]) rfl ?_
  refine wpAny_newFunctionEnv (fun x hx => ?_) (fun x hx => ?_) (fun h' hn hsb => ?_) (by rfl)
  · have := List.all_eq_true.mp nocell1 x hx
    simpa using this
  · simp only [List.mem_cons, List.not_mem_nil, or_false] at hx
    subst hx; show (fScope (stm 1)).names.lookup (Str.ofString "addr") = _; decide +kernel
  have keep' : ∀ b o, s₁.heap.get? b = some o → h'.get? b = some o := fun b o e => hsb.extBut b o (Nat.ne_of_lt (Heap.lt_size e)) (Heap.get?_push_of_some _ e)
  have hW' : Wf h₁ { s₁ with heap := h' } g₁ := ⟨fun b o e => keep' b o (I₁.wf.sub b o e), I₁.wf.base⟩
  refine ⟨B.nolimit.keeps hW'.keep1, ?_⟩
  generalize hge : newEnv (Calls.docDef (fName (stm 1)) (fParams (stm 1)) (fBody (stm 1)) (fScope (stm 1)) pm cd doc).scope s₁.heap.objs.size (Calls.docDef (fName (stm 1)) (fParams (stm 1)) (fBody (stm 1)) (fScope (stm 1)) pm cd doc).globals
    (Calls.docDef (fName (stm 1)) (fParams (stm 1)) (fBody (stm 1)) (fScope (stm 1)) pm cd doc).closure ((Calls.docDef (fName (stm 1)) (fParams (stm 1)) (fBody (stm 1)) (fScope (stm 1)) pm cd doc).qualname ++ Str.ofString ".<locals>.") (some a) (Calls.docDef (fName (stm 1)) (fParams (stm 1)) (fBody (stm 1)) (fScope (stm 1)) pm cd doc).code none (Calls.docDef (fName (stm 1)) (fParams (stm 1)) (fBody (stm 1)) (fScope (stm 1)) pm cd doc).builtins = genv
  have hsz : h'.objs.size = s₁.heap.objs.size + 1 := hsb.1.trans (Heap.size_push ..)
  -- the generator object
  generalize hsg : ({ heap := h'.push _, gens := _, drawn := _, toks := _, os := _ } : Shared) = sg
  have isg : sg.heap.IsGen h'.objs.size s₁.gens.size := by rw [← hsg]; exact ⟨_, _, _, Heap.get?_push_size _ rfl, rfl, rfl, rfl⟩
  have hgens : sg.gens = s₁.gens.push (.fresh (.func (fBody (stm 1)) genv)) := by rw [← hsg]
  have hos : sg.os = s₁.os := by rw [← hsg]
  have keepg : ∀ b o, h'.get? b = some o → sg.heap.get? b = some o := fun b o e => by rw [← hsg]; exact Heap.get?_push_of_some _ e
  have hszg : sg.heap.objs.size = h'.objs.size + 1 := by rw [← hsg]; exact Heap.size_push ..
  clear hsg
  have keep : ∀ b o, s₁.heap.get? b = some o → sg.heap.get? b = some o := fun b o e => keepg b o (keep' b o e)
  have hWg : Wf h₁ sg g₁ := ⟨fun b o e => keep b o (I₁.wf.sub b o e), I₁.wf.base⟩
  have gC : genv.locals = s₁.heap.objs.size := by rw [← hge]; rfl
  generalize hown : [genv.locals, sg.heap.objs.size + 1, sg.heap.objs.size] = own
  have hall : ∀ b ∈ h'.objs.size :: own, s₁.heap.objs.size ≤ b := fun b hb => by
    rw [← hown] at hb
    simp only [List.mem_cons, List.not_mem_nil, or_false] at hb
    rcases hb with rfl | rfl | rfl | rfl
    · rw [hsz]; exact Nat.le_succ _
    · rw [gC]; exact Nat.le_refl _
    · rw [hszg, hsz]; exact Nat.le_succ_of_le (Nat.le_succ_of_le (Nat.le_succ _))
    · rw [hszg, hsz]; exact Nat.le_succ_of_le (Nat.le_succ _)
  have hnone : ∀ b ∈ h'.objs.size :: own, s₁.heap.get? b = none := fun b hb => get?_none_of_size (hall b hb)
  have hlive : ∀ b, (∃ o, s₁.heap.get? b = some o) → b ∉ h'.objs.size :: own := fun b ⟨o, ho⟩ hb => by rw [hnone b hb] at ho; cases ho
  have hown0 : ∀ b ∈ h'.objs.size :: own, F.s₀.heap.get? b = none ∧ F.K b = none := fun b hb => fresh_F I₁ (hnone b hb)
  have hga : h'.objs.size ∉ own := by
    rw [← hown]
    simp only [List.mem_cons, List.not_mem_nil, or_false, not_or]
    refine ⟨?_, ?_, ?_⟩
    · rw [gC, hsz]; exact Nat.succ_ne_self _
    · rw [hszg]; exact Nat.ne_of_lt (Nat.lt_succ_of_lt (Nat.lt_succ_self _))
    · rw [hszg]; exact Nat.ne_of_lt (Nat.lt_succ_self _)
  have hgs : s₁.gens[s₁.gens.size]? = none := by simp
  have hgn : F.s₀.gens[s₁.gens.size]? = none := by
    cases q : F.s₀.gens[s₁.gens.size]? with
    | none => rfl
    | some st => have := I₁.grow.gens _ _ q; rw [hgs] at this; cases this
  have hgens1 : ∀ (j : Nat) (st : GenState), s₁.gens[j]? = some st → sg.gens[j]? = some st := fun j st e => by rw [hgens]; exact push_other e
  have hsK : ∀ b, (F.gen sg g₁ (h'.objs.size :: own)).K b = if b ∈ h'.objs.size :: own then sg.heap.get? b else F.K b := fun _ => rfl
  have R := I₁.rebase ow (F' := F.gen sg g₁ (h'.objs.size :: own)) (own := []) hWg {
      keep := fun b o e => keep b o (I₁.grow.keep b o e)
      old := I₁.grow.old
      sub := hWg.sub
      os := hos.trans I₁.grow.os
      gens := fun _ _ e => e
      bare := fun _ _ e => .inl e } (fun b h => h) (fun b hb => by cases hb) (fun b o _ e => keep b o e) (fun _ _ _ _ => rfl)
    (fun b _ hb h => by rw [hsK, if_neg (hlive b hb)]; exact h) (fun b o e => by
      rw [hsK] at e
      split at e
      · exact e
      · exact keep b o (I₁.prot b o e)) (fun b o e => by
      rw [hsK] at e
      split at e
      · rename_i hb; exact none_g I₁.wf.sub (hnone b hb)
      · exact I₁.protN b o e) (fun j st e => hgens1 j st (I₁.protG j st e)) (fun _ _ e => e)
  obtain ⟨Ig, owg⟩ := R
  show wpAny (model prog w) A (pyIter (.ref h'.objs.size)) _ E sg
  refine wpAny_pyIter_gen isg ?_
  refine gen_loop B σs rm hsc hown0 hga hgn step _ 0 sg g₁ rfl (Nat.zero_le _) {
    inv := ⟨_, hσ ▸ Ig, owg, fun b => Iff.rfl, fun b hb => by
      rw [hsK, if_pos hb]
      cases sg.heap.get? b with
      | none => exact .inr rfl
      | some o => exact .inl rfl, fun b hb => by rw [hsK, if_neg hb]⟩
    grow := fun b o e => keep b o (I₁.grow.keep b o e)
    old := I₁.grow.old
    os := hos.trans I₁.grow.os
    gens := fun j st e => hgens1 j st (I₁.grow.gens j st e)
    bare := fun j st e => by
      by_cases hj : j = s₁.gens.size
      · exact .inl hj
      · rw [hgens, Array.getElem?_push, if_neg hj] at e
        exact .inr (I₁.grow.bare j st e)
    kg := fun j st e => by
      have h1 := I₁.protG j st e
      exact ⟨hgens1 j st h1, fun q => by rw [q, hgs] at h1; cases h1⟩
    gp := I₁.protF
    isgen := isg
    gN := fun b hb => none_g I₁.wf.sub (hnone b hb)
    go := ⟨.fresh (.func (fBody (stm 1)) genv), by rw [hgens]; simp, rfl, ?_⟩ }
  rw [Nat.sub_zero, ← hown]
  have hn' : sg.heap.Ns genv.locals (fun x => [(Str.ofString "addr", Value.str (S l) t)].reverse.lookup x) := by rw [gC]; exact hn.keeps keepg
  refine iter_seg B henum (s := sg.setGen s₁.gens.size .running) (m := fun x => [(Str.ofString "addr", Value.str (S l) t)].reverse.lookup x) (t := t) hl ?_ ?_ ?_ ?_ ⟨hWg.sub, hWg.base⟩ hn' ?_ ?_ (room_in1 rm)
  · rw [← hge]; rfl
  · rw [← hge]; rfl
  · rw [← hge]; rfl
  · rw [← hge]; rfl
  · simp
  · refine none_g I₁.wf.sub (hnone _ (List.mem_cons_of_mem _ ?_))
    rw [← hown]; simp
end
end Mine
end

-- part MStm3
section

open PySem PySem.W PyProof.Rows
set_option linter.unusedVariables false
set_option maxRecDepth 100000
namespace Mine
open Builtin Builtin.Str

theorem contains_iff (x y : List Nat) : Txt.contains (S x) (S y) = (findF x y 0 x.length).isSome := by
  have h := occ_find x y 0 x.length
  unfold Txt.contains
  rw [S_length]
  generalize occurrences (S x) (S y) 0 x.length 1 = occ at h ⊢
  cases occ with
  | nil =>
    cases q : findF x y 0 x.length with
    | none => rfl
    | some i => rw [q] at h; have h : (-1 : Int) = (i : Int) := h; omega
  | cons k r =>
    cases q : findF x y 0 x.length with
    | none => rw [q] at h; have h : ((k : Nat) : Int) = -1 := h; omega
    | some i => rfl
theorem findF_some {x y : List Nat} {lo hi i : Nat} (h : AtL x y hi i) (hl : lo ≤ i) : (findF x y lo hi).isSome = true := by
  unfold findF
  rw [List.find?_isSome]
  have := h.1
  exact ⟨i, List.mem_range'_1.mpr ⟨hl, by omega⟩, by simpa using h⟩
theorem contains_one (x : List Nat) (c : Nat) : Txt.contains (S x) (S [c]) = decide (c ∈ x) := by
  rw [contains_iff, Bool.eq_iff_iff, decide_eq_true_eq]
  constructor
  · intro h
    unfold findF at h
    rw [List.find?_isSome] at h
    obtain ⟨i, _, hi⟩ := h
    have hi := of_decide_eq_true hi
    have := congrArg (fun l : List Nat => l[0]?) hi.2
    simp only [List.length_cons, List.length_nil, Nat.zero_add, List.getElem?_cons_zero] at this
    rw [List.getElem?_take_of_lt (by omega), List.getElem?_drop] at this
    exact List.mem_of_getElem? this
  · intro h
    obtain ⟨i, hi, e⟩ := List.mem_iff_getElem.mp h
    refine findF_some (i := i) ⟨by simp; omega, ?_⟩ (Nat.zero_le _)
    rw [List.drop_eq_getElem_cons hi, e]; simp
theorem contains_mid (a y b : List Nat) : Txt.contains (S (a ++ y ++ b)) (S y) = true := by
  rw [contains_iff]
  refine findF_some (i := a.length) ⟨by simp, ?_⟩ (Nat.zero_le _)
  rw [List.append_assoc, List.drop_left]; simp

section
variable {prog : Program} {w : World} {h₁ : Heap} {mg mb : Str → Option Value} {n : Nat} {sc : Scope} {σ σ' σ'' : List (Str × D)}

theorem CmpE.notin_t {a b : List Nat} {r : Bool} (h : Txt.contains (S b) (S a) = r) : CmpE prog w h₁ .NotIn (tx a) (tx b) (!r) := h ▸ CmpE.notin_str
theorem ExL.nil_weak (h : Weak σ σ') : ExL prog w h₁ n sc σ [] (.next σ') := fun A E env F s g rm hs ow I => wpAny_execs_nil ⟨g, rfl, I.weak h⟩
theorem ExL.asg {x : Str} {px pos : Pos} {e : Expr} {d : D} {rest : List Stmt} {o : Oc} (hs : ∀ env, swapsWith e (some (.Name x px)) pos.line env = pure false) (hk : KindS sc x) (h : EvE prog w h₁ n sc σ e d) (hset : Set1 x d σ σ')
    (hr : ExL prog w h₁ n sc σ' rest o) : ExL prog w h₁ n sc σ (.Assign [.Name x px] e pos :: rest) o := ExL.cons (ExS.assign h hset hk hs) hr
theorem ExL.asg_m {x : Str} {px pos : Pos} {e : Expr} {xs : List D} {rest : List Stmt} {o : Oc} (hs : ∀ env, swapsWith e (some (.Name x px)) pos.line env = pure false) (hk : KindS sc x) (h : EvM prog w h₁ n sc σ e xs) (hset : Set1 x (.mlist xs) σ σ')
    (hr : ExL prog w h₁ n sc σ' rest o) : ExL prog w h₁ n sc σ (.Assign [.Name x px] e pos :: rest) o := ExL.cons (ExS.assign_m h hset hk hs) hr
theorem ExL.iff {t : Expr} {b o rest : List Stmt} {pos : Pos} {oc : Oc} {c : Bool} (h : EvB prog w h₁ n sc σ t c) (ht : c = true → ExL prog w h₁ n sc σ b (.next σ')) (hf : c = false → ExL prog w h₁ n sc σ o (.next σ'))
    (hr : ExL prog w h₁ n sc σ' rest oc) : ExL prog w h₁ n sc σ (.If t b o pos :: rest) oc := by
  cases c with
  | true => exact ExL.cons (ExS.if_true h (ht rfl)) hr
  | false => exact ExL.cons (ExS.if_false h (hf rfl)) hr
theorem ExL.app {x : Str} {px ap pos pos' : Pos} {e : Expr} {xs : List D} {d : D} {rest : List Stmt} {o : Oc} (hp : ∀ env, methodCallPos true (.Name x px) env ap pos = pure pos) (he : ∀ env, starEach [e] env = [(false, eval e env)])
    (hi : ∀ env, env.scope = sc → interactive env = false) (hd : dbg x = false)
    (hx : Look x σ (.mlist xs)) (h : EvE prog w h₁ n sc σ e d) (hset : Set1 x (.mlist (xs ++ [d])) σ σ') (hz : xs.length ≤ 1000) (hr : ExL prog w h₁ n sc σ' rest o) :
    ExL prog w h₁ n sc σ (.Expr (.Call (.Attribute (.Name x px) (Str.ofString "append") ap) [e] [] pos) pos' :: rest) o := ExL.cons (ExS.append hx.mem h hset hz hp he hi hd) hr
end
end Mine
end

-- part MStrip
section

open PySem PySem.W PyProof.Rows
set_option linter.unusedVariables false
set_option maxRecDepth 100000
namespace Mine


/-- one sign of the text, as _strip_quoted_realnames takes it: start, the open quotation mark, the pieces -/
structure SSt where
  start : Nat
  op : Option Nat
  res : List (List Nat)
noncomputable def sStep (l : List Nat) (st : SSt) (p : Nat × List Nat) : SSt :=
  if p.2 = [34] then
    match st.op with
    | none => { st with op := some p.1 }
    | some o => { start := p.1 + 1, op := none, res := if st.start ≠ o then st.res ++ [(l.drop st.start).take (o - st.start)] else st.res }
  else st
noncomputable def sAll (l : List Nat) (ys : List (Nat × List Nat)) : SSt := ys.foldl (sStep l) ⟨0, none, []⟩
noncomputable def stripF (l : List Nat) : List Nat :=
  if 34 ∈ l then
    let st := sAll l (esc 0 false l)
    (st.res ++ if st.start < l.length then [l.drop st.start] else []).flatten
  else l

/-- where the signs stand -/
theorem esc_pos : ∀ (r : List Nat) (i : Nat) (e : Bool), (e = true → 1 ≤ i) → (∀ p ∈ esc i e r, (if e then i - 1 else i) ≤ p.1 ∧ p.1 < i + r.length) ∧ (esc i e r).Pairwise (fun a b => a.1 < b.1)
  | [], i, true, h => by have := h rfl; simp [esc]; omega
  | [], i, false, _ => by simp [esc]
  | c :: r, i, true, h => by
    obtain ⟨h1, h2⟩ := esc_pos r (i + 1) false (by simp)
    simp only [esc, List.mem_cons, forall_eq_or_imp, List.length_cons, List.pairwise_cons]
    refine ⟨⟨by simp, fun p hp => ?_⟩, fun p hp => ?_, h2⟩
    · have := h1 p hp; simp at this ⊢; omega
    · have := h1 p hp; simp at this ⊢; omega
  | c :: r, i, false, _ => by
    by_cases hc : c = 92
    · obtain ⟨h1, h2⟩ := esc_pos r (i + 1) true (by simp)
      rw [esc, if_pos hc]
      refine ⟨fun p hp => ?_, h2⟩
      have := h1 p hp; simp at this ⊢; omega
    · obtain ⟨h1, h2⟩ := esc_pos r (i + 1) false (by simp)
      rw [esc, if_neg hc]
      simp only [List.mem_cons, forall_eq_or_imp, List.length_cons, List.pairwise_cons]
      refine ⟨⟨by simp, fun p hp => ?_⟩, fun p hp => ?_, h2⟩
      · have := h1 p hp; simp at this ⊢; omega
      · have := h1 p hp; simp at this ⊢; omega
theorem esc_len : ∀ (r : List Nat) (i : Nat) (e : Bool), (esc i e r).length ≤ r.length + 1
  | [], i, true => by simp [esc]
  | [], i, false => by simp [esc]
  | c :: r, i, true => by have := esc_len r (i + 1) false; simp [esc]; exact this
  | c :: r, i, false => by
    by_cases hc : c = 92
    · have := esc_len r (i + 1) true; rw [esc, if_pos hc]; simp; omega
    · have := esc_len r (i + 1) false; rw [esc, if_neg hc]; simp; omega

noncomputable def SOk (st : SSt) (b : Nat) : Prop := st.start ≤ b ∧ (∀ o, st.op = some o → st.start ≤ o ∧ o < b)
theorem sStep_ok {l : List Nat} {st : SSt} {b : Nat} {p : Nat × List Nat} (h : SOk st b) (hb : b ≤ p.1) : SOk (sStep l st p) (p.1 + 1) := by
  obtain ⟨h1, h2⟩ := h
  unfold sStep
  split
  · split
    · exact ⟨by dsimp only; omega, fun o e => by cases e; dsimp only; omega⟩
    · exact ⟨by dsimp only; omega, fun o e => by cases e⟩
  · exact ⟨by omega, fun o e => by have := h2 o e; omega⟩
theorem sOk_all {l : List Nat} : ∀ (ys : List (Nat × List Nat)) (st : SSt) (b : Nat), SOk st b → (∀ p ∈ ys, b ≤ p.1) → ys.Pairwise (fun a b => a.1 < b.1) → ∀ k, k ≤ ys.length →
    ∃ b', SOk ((ys.take k).foldl (sStep l) st) b' ∧ (∀ p ∈ ys.drop k, b' ≤ p.1) ∧ ((ys.take k).foldl (sStep l) st).res.length ≤ st.res.length + k
  | ys, st, b, h, hb, hp, 0, _ => ⟨b, by simpa using h, by simpa using hb, by simp⟩
  | [], st, b, h, hb, hp, k + 1, hk => by simp at hk
  | p :: ys, st, b, h, hb, hp, k + 1, hk => by
    rw [List.pairwise_cons] at hp
    have h1 := sStep_ok (l := l) (p := p) h (hb p (List.mem_cons_self ..))
    obtain ⟨b', a1, a2, a3⟩ := sOk_all ys (sStep l st p) (p.1 + 1) h1 (fun q hq => hp.1 q hq) hp.2 k (by simpa using hk)
    refine ⟨b', by simpa using a1, by simpa using a2, ?_⟩
    rw [List.take_succ_cons, List.foldl_cons]
    have : (sStep l st p).res.length ≤ st.res.length + 1 := by
      unfold sStep
      split
      · split
        · simp
        · dsimp only; split <;> simp
      · simp
    omega

theorem sRes_len {l : List Nat} : ∀ (ys : List (Nat × List Nat)) (st : SSt), (∀ x ∈ st.res, x.length ≤ l.length) → ∀ x ∈ (ys.foldl (sStep l) st).res, x.length ≤ l.length
  | [], st, h => h
  | p :: ys, st, h => by
    rw [List.foldl_cons]
    refine sRes_len ys _ ?_
    unfold sStep
    split
    · split
      · exact h
      · dsimp only
        split
        · intro x hx
          rcases List.mem_append.mp hx with hx | hx
          · exact h x hx
          · rw [List.mem_singleton] at hx; subst hx; simp; omega
        · exact h
    · exact h
theorem sum_le {ls : List (List Nat)} {k : Nat} (h : ∀ x ∈ ls, x.length ≤ k) : (ls.map List.length).sum ≤ ls.length * k := by
  induction ls with
  | nil => simp
  | cons x r ih =>
    have h1 := h x (List.mem_cons_self ..)
    have h2 := ih fun y hy => h y (List.mem_cons_of_mem _ hy)
    simp only [List.map_cons, List.sum_cons, List.length_cons, Nat.succ_mul]; omega
theorem tL_eq (ls : List (List Nat)) : D.list (ls.map tx) = tL ls := by unfold tL; rw [sL_tx]
noncomputable abbrev opD : Option Nat → D
  | none => .none
  | some o => .int (o : Int)
noncomputable abbrev sS (l : List Nat) (st : SSt) (p c : D) : List (Str × D) :=
  [(Str.ofString "addr", tx l), (Str.ofString "start", .int (st.start : Int)), (Str.ofString "open_pos", opD st.op), (Str.ofString "result", .mlist (st.res.map tx)), (Str.ofString "pos", p), (Str.ofString "ch", c)]

section
variable {prog : Program} {w : World} {h₁ : Heap} {mg mb : Str → Option Value} {n : Nat} {sc : Scope} {σ σ' : List (Str × D)}

theorem strip_calls (B : Bs h₁ mg mb) (hlen : Glob mg mb (Str.ofString "len") (.builtin "len")) (henum : Glob mg mb (Str.ofString "enumerate") (.type "enumerate")) {a1 a : Addr} (hf1 : FnAt h₁ mg 1 a1) (hf : FnAt h₁ mg 2 a) (l : List Nat) (hl : ∀ c ∈ l, c < 128) (hz : l.length ≤ 900) :
    CallE prog w h₁ (n + 3) (.ref a) [tx l] (tx (stripF l)) := by
  obtain ⟨o, pm, cd, doc, ho, hd, hcd⟩ := hf.obj
  refine CallE.fn B (xs := [Str.ofString "addr"]) (σ₀ := [(Str.ofString "addr", tx l), (Str.ofString "start", .unset), (Str.ofString "open_pos", .unset), (Str.ofString "result", .unset), (Str.ofString "pos", .unset), (Str.ofString "ch", .unset)]) ho hd hcd (fun vs hv => ?_) rfl (by decide +kernel) (by decide +kernel) (by simp) (by show List.Nodup [Str.ofString "addr", Str.ofString "start", Str.ofString "open_pos", Str.ofString "result", Str.ofString "pos", Str.ofString "ch"]; decide +kernel) (by intro x xs h; simp [tx] at h) ?_
  · obtain ⟨v, rfl⟩ := list_one vs hv
    rfl
  conv => arg 7; whnf
  by_cases hq : 34 ∈ l
  · refine ExL.iff (c := false) (σ' := [(Str.ofString "addr", tx l), (Str.ofString "start", .unset), (Str.ofString "open_pos", .unset), (Str.ofString "result", .unset), (Str.ofString "pos", .unset), (Str.ofString "ch", .unset)]) ?tst (fun q => by cases q) (fun _ => ExL.nil) ?_
    case tst =>
      have hc : Txt.contains (S l) (S [34]) = true := by rw [contains_one, decide_eq_true hq]
      refine EvB.cmp' (by with_unfolding_all rfl) ?_ ?_ (CmpE.notin_t hc)
      all_goals walk_at "m ev"
    refine ExL.asg (d := .int 0) (fun _ => rfl) (by decide +kernel) ?v0 (by walk_at "m set") ?_
    case v0 => walk_at "m ev"
    refine ExL.asg (d := .none) (fun _ => rfl) (by decide +kernel) ?v1 (by walk_at "m set") ?_
    case v1 => walk_at "m ev"
    refine ExL.asg_m (xs := []) (fun _ => rfl) (by decide +kernel) EvM.nil (by walk_at "m set") ?_
    obtain ⟨hp1, hp2⟩ := esc_pos l 0 false (by simp)
    have hylen := esc_len l 0 false
    have hok := sOk_all (l := l) (esc 0 false l) ⟨0, none, []⟩ 0 ⟨Nat.le_refl _, fun o e => by cases e⟩ (fun p hp => Nat.zero_le _) hp2
    refine ExL.cons (ExS.for_esc B henum hf1 hl (by rfl) (by decide +kernel) (by decide +kernel) (fun _ => rfl) (by walk_at "m ev")
      (fun i => sS l (((esc 0 false l).take i).foldl (sStep l) ⟨0, none, []⟩) .unset .unset) rfl (fun i p hi => ?step)) ?_
    case step =>
      have hil : i < (esc 0 false l).length := by
        rcases Nat.lt_or_ge i (esc 0 false l).length with h | h
        · exact h
        · rw [List.getElem?_eq_none h] at hi; cases hi
      have htake : (esc 0 false l).take (i + 1) = (esc 0 false l).take i ++ [p] := by
        rw [← List.take_append_getElem hil]; congr 2
        rw [List.getElem?_eq_getElem hil] at hi; exact Option.some.inj hi
      have hmem : p ∈ (esc 0 false l).drop i := by
        rw [List.drop_eq_getElem_cons hil]
        rw [List.getElem?_eq_getElem hil] at hi
        rw [Option.some.inj hi]; exact List.mem_cons_self ..
      rw [htake, List.foldl_append]
      obtain ⟨b, hb1, hb2, hb3⟩ := hok i (Nat.le_of_lt hil)
      generalize ((esc 0 false l).take i).foldl (sStep l) ⟨0, none, []⟩ = st at hb1 hb3 ⊢
      have hpl := (hp1 p (List.mem_of_mem_drop hmem)).2
      have hbp := hb2 p hmem
      refine ⟨sS l st (.int (p.1 : Int)) (tx p.2), AsgE.pair (by walk_at "m set") (by walk_at "m set") (by decide +kernel) (by decide +kernel), ?_⟩
      show ExL prog w h₁ (n + 2) (fScope (stm 2)) (sS l st (.int (p.1 : Int)) (tx p.2)) _ (.next (sS l (sStep l st p) .unset .unset))
      have fin : ∀ st' q c, ExL prog w h₁ (n + 2) (fScope (stm 2)) (sS l st' q c) [] (.next (sS l st' .unset .unset)) := fun st' q c => ExL.nil_weak (.same (.same (.same (.same (.drop (.drop .nil))))))
      refine ExL.iff (c := decide (p.2 = [34])) (σ' := sS l (sStep l st p) (.int (p.1 : Int)) (tx p.2)) ?tst (fun hq => ?yes) (fun hq => ?no) (fin _ _ _)
      case tst => repeat' walk_at "m ev"
      case no =>
        have hq : ¬ p.2 = [34] := by simpa using hq
        rw [show sStep l st p = st by rw [sStep, if_neg hq]]
        exact ExL.nil
      case yes =>
        have hq : p.2 = [34] := by simpa using hq
        obtain ⟨sst, sop, sres⟩ := st
        obtain ⟨q1, q2⟩ := hb1
        cases sop with
        | none =>
          have e : sStep l ⟨sst, none, sres⟩ p = ⟨sst, some p.1, sres⟩ := by rw [sStep, if_pos hq]
          rw [e]
          refine ExL.iff (c := true) (σ' := sS l ⟨sst, some p.1, sres⟩ (.int (p.1 : Int)) (tx p.2)) ?tst (fun ho => ?yes) (fun ho => by cases ho) ExL.nil
          case tst =>
            refine EvB.cmp' (by with_unfolding_all rfl) (d₁ := .none) (d₂ := .none) ?_ ?_ CmpE.is_none_none
            · exact EvE.nm (Look.there (Look.there Look.here)) rfl (by decide +kernel)
            · walk_at "m ev"
          case yes =>
            refine ExL.asg (d := .int (p.1 : Int)) (fun _ => rfl) (by decide +kernel) ?v (.there (.there .here)) ExL.nil
            case v => walk_at "m ev"
        | some oo =>
          obtain ⟨q3, q4⟩ := q2 oo rfl
          have e : sStep l ⟨sst, some oo, sres⟩ p = ⟨p.1 + 1, none, if sst ≠ oo then sres ++ [(l.drop sst).take (oo - sst)] else sres⟩ := by rw [sStep, if_pos hq]
          rw [e]
          refine ExL.iff (c := false) (σ' := sS l ⟨p.1 + 1, none, if sst ≠ oo then sres ++ [(l.drop sst).take (oo - sst)] else sres⟩ (.int (p.1 : Int)) (tx p.2)) ?tst (fun ho => by cases ho) (fun ho => ?no) ExL.nil
          case tst =>
            refine EvB.cmp' (by with_unfolding_all rfl) (d₁ := .int (oo : Int)) (d₂ := .none) ?_ ?_ CmpE.is_int_none
            · exact EvE.nm (Look.there (Look.there Look.here)) rfl (by decide +kernel)
            · walk_at "m ev"
          case no =>
            refine ExL.iff (c := decide ((sst : Int) ≠ (oo : Int))) (σ' := sS l ⟨sst, some oo, if sst ≠ oo then sres ++ [(l.drop sst).take (oo - sst)] else sres⟩ (.int (p.1 : Int)) (tx p.2)) ?tst (fun ho => ?yes) (fun ho => ?no) ?rest
            case tst =>
              refine EvB.cmp' (by with_unfolding_all rfl) (d₁ := .int (sst : Int)) (d₂ := .int (oo : Int)) ?_ ?_ CmpE.ne_int
              · walk_at "m ev"
              · exact EvE.nm (Look.there (Look.there Look.here)) rfl (by decide +kernel)
            case yes =>
              have ho : sst ≠ oo := by have := of_decide_eq_true ho; omega
              rw [if_pos ho]
              have hz' : (S l).length ≤ sizeLine := by rw [S_length]; have : sizeLine = 16777216 := rfl; omega
              refine ExL.app (xs := sres.map tx) (d := tx ((l.drop sst).take (oo - sst))) (fun _ => rfl) (fun _ => rfl) (by intro env h; cases env; cases h; rfl) (by decide +kernel) (.there (.there (.there .here))) ?v (.there (.there (.there .here))) ?z ?r
              case v =>
                exact EvE.slice_str (x := S l) (a := some (sst : Int)) (b := some (oo : Int)) (EvE.nm .here rfl (by decide +kernel)) (EvP.some (EvE.nm (.there .here) rfl (by decide +kernel))) (EvP.some (EvE.nm (.there (.there .here)) rfl (by decide +kernel)))
                  (cutS_side (S l) q3 (by rw [S_length]; omega)) hz'
              case z =>
                rw [List.length_map]
                have : sres.length ≤ 0 + i := hb3
                omega
              case r =>
                rw [show sres.map tx ++ [tx ((l.drop sst).take (oo - sst))] = (sres ++ [(l.drop sst).take (oo - sst)]).map tx by simp]
                exact ExL.nil
            case no =>
              have ho : ¬ sst ≠ oo := by have := of_decide_eq_false ho; omega
              rw [if_neg ho]
              exact ExL.nil
            case rest =>
              refine ExL.asg (d := .int ((p.1 + 1 : Nat) : Int)) (fun _ => rfl) (by decide +kernel) ?v (.there .here) ?_
              case v =>
                refine EvE.cast (d := .int ((p.1 : Int) + 1)) ?_ (by congr 1)
                refine EvE.binop ?_ ?_ OpE.add_int
                all_goals walk_at "m ev"
              refine ExL.asg (d := .none) (fun _ => rfl) (by decide +kernel) ?v (.there (.there .here)) ExL.nil
              case v => walk_at "m ev"
    -- behind the loop
    show ExL prog w h₁ (n + 2) (fScope (stm 2)) (sS l (((esc 0 false l).take (esc 0 false l).length).foldl (sStep l) ⟨0, none, []⟩) .unset .unset) _ _
    obtain ⟨b, hb1, hb2, hb3⟩ := hok _ (Nat.le_refl _)
    rw [List.take_length] at hb1 hb3 ⊢
    have hrl := sRes_len (l := l) (esc 0 false l) ⟨0, none, []⟩ (by simp)
    have hF : stripF l = ((sAll l (esc 0 false l)).res ++ if (sAll l (esc 0 false l)).start < l.length then [l.drop (sAll l (esc 0 false l)).start] else []).flatten := by rw [stripF, if_pos hq]
    rw [hF]
    show ExL prog w h₁ (n + 2) (fScope (stm 2)) (sS l (sAll l (esc 0 false l)) .unset .unset) _ _
    have hb3 : (sAll l (esc 0 false l)).res.length ≤ 0 + (esc 0 false l).length := hb3
    have hrl : ∀ x ∈ (sAll l (esc 0 false l)).res, x.length ≤ l.length := hrl
    generalize sAll l (esc 0 false l) = st at hb3 hrl ⊢
    refine ExL.iff (c := decide ((st.start : Int) < (l.length : Int))) (σ' := sS l { st with res := st.res ++ if st.start < l.length then [l.drop st.start] else [] } .unset .unset) ?tst (fun ho => ?yes) (fun ho => ?no) ?rest
    case tst =>
      repeat' walk_at "m ev"
      all_goals omega
    case yes =>
      have ho : st.start < l.length := by have := of_decide_eq_true ho; omega
      rw [if_pos ho]
      have hz' : (S l).length ≤ sizeLine := by rw [S_length]; have : sizeLine = 16777216 := rfl; omega
      refine ExL.app (xs := st.res.map tx) (d := tx (l.drop st.start)) (fun _ => rfl) (fun _ => rfl) (by intro env h; cases env; cases h; rfl) (by decide +kernel) (.there (.there (.there .here))) ?v (.there (.there (.there .here))) ?z ?r
      case v =>
        exact EvE.slice_str (x := S l) (a := some (st.start : Int)) (b := none) (EvE.nm .here rfl (by decide +kernel)) (EvP.some (EvE.nm (.there .here) rfl (by decide +kernel))) EvP.none
          (cutS_sideFrom (S l) (by rw [S_length]; omega)) hz'
      case z => rw [List.length_map]; omega
      case r =>
        rw [show st.res.map tx ++ [tx (l.drop st.start)] = (st.res ++ [l.drop st.start]).map tx by simp]
        exact ExL.nil
    case no =>
      have ho : ¬ st.start < l.length := by have := of_decide_eq_false ho; omega
      rw [if_neg ho, List.append_nil]
      exact ExL.nil
    case rest =>
      have hall : ∀ x ∈ (st.res ++ if st.start < l.length then [l.drop st.start] else []), x.length ≤ l.length := by
        intro x hx
        rcases List.mem_append.mp hx with hx | hx
        · exact hrl x hx
        · split at hx
          · rw [List.mem_singleton] at hx; subst hx; simp
          · cases hx
      have hlenr : (st.res ++ if st.start < l.length then [l.drop st.start] else []).length ≤ 902 := by
        rw [List.length_append]; split <;> simp <;> omega
      generalize (st.res ++ if st.start < l.length then [l.drop st.start] else []) = rs at hall hlenr ⊢
      refine ExL.freeze (x := Str.ofString "result") (xs := rs.map tx) (.tail _ (.tail _ (.tail _ (.head _)))) (.there (.there (.there .here))) ?_
      rw [tL_eq]
      refine ExL.ret (ExS.return_ ?_)
      rw [← inter_nil]
      have hsum : (rs.map List.length).sum ≤ 902 * 900 := Nat.le_trans (sum_le hall) (Nat.mul_le_mul hlenr hz)
      repeat' walk_at "m ev"
      all_goals (simp only [List.length_nil, Nat.mul_zero, Nat.add_zero]; omega)
  · refine ExL.ret (d := tx (stripF l)) (ExS.if_true ?tst (ExL.ret (ExS.return_ ?v)))
    case tst =>
      have hc : Txt.contains (S l) (S [34]) = false := by rw [contains_one, decide_eq_false hq]
      refine EvB.cmp' (by with_unfolding_all rfl) ?_ ?_ (CmpE.notin_t hc)
      all_goals walk_at "m ev"
    case v =>
      rw [show stripF l = l by rw [stripF, if_neg hq]]
      walk_at "m ev"
end
end Mine
end

-- part MEll
section

open PySem PySem.W PyProof.Rows
set_option linter.unusedVariables false
set_option maxRecDepth 100000
namespace Mine


/-- the parts found one behind the other, from sp on, within hi -/
noncomputable def runE (got : List Nat) (hi : Nat) : Nat → List (List Nat) → Bool
  | _, [] => true
  | sp, w :: r => match findF got w sp hi with
    | none => false
    | some i => runE got hi (i + w.length) r
noncomputable def ell2 (ws : List (List Nat)) (got : List Nat) (sp : Nat) : Bool :=
  let wl := ws.getLastD []
  if wl = [] then (if got.length < sp then false else runE got got.length sp ws)
  else if wl <:+ got then (if got.length - wl.length < sp then false else runE got (got.length - wl.length) sp ws.dropLast)
  else false
noncomputable def ellF (parts : List (List Nat)) (got : List Nat) : Bool :=
  let w0 := parts.headD []
  if w0 = [] then ell2 parts got 0
  else if w0 <+: got then ell2 parts.tail got w0.length
  else false

noncomputable def spAt (got : List Nat) (ep : Nat) : Nat → List (List Nat) → Nat → Nat
  | sp, _, 0 => sp
  | sp, [], _ + 1 => sp
  | sp, w :: r, i + 1 => match findF got w sp ep with
    | some j => spAt got ep (j + w.length) r i
    | none => sp
theorem spAt_zero (got : List Nat) (ep sp : Nat) (ws : List (List Nat)) : spAt got ep sp ws 0 = sp := by cases ws <;> rfl
theorem run_spec (got : List Nat) (ep : Nat) : ∀ (ws : List (List Nat)) (sp : Nat), ∃ k, k ≤ ws.length ∧ (∀ i, i < k → ∃ w j, ws[i]? = some w ∧ findF got w (spAt got ep sp ws i) ep = some j ∧ spAt got ep sp ws (i + 1) = j + w.length) ∧
    ((k = ws.length ∧ runE got ep sp ws = true) ∨ (∃ w, ws[k]? = some w ∧ findF got w (spAt got ep sp ws k) ep = none ∧ runE got ep sp ws = false))
  | [], sp => ⟨0, Nat.le_refl _, fun i h => absurd h (Nat.not_lt_zero _), .inl ⟨rfl, rfl⟩⟩
  | w :: r, sp => by
    cases q : findF got w sp ep with
    | none => exact ⟨0, Nat.zero_le _, fun i h => absurd h (Nat.not_lt_zero _), .inr ⟨w, rfl, q, by simp [runE, q]⟩⟩
    | some j =>
      obtain ⟨k, h1, h2, h3⟩ := run_spec got ep r (j + w.length)
      have e : ∀ i, spAt got ep sp (w :: r) (i + 1) = spAt got ep (j + w.length) r i := fun i => by simp [spAt, q]
      refine ⟨k + 1, by simpa using h1, fun i hi => ?_, ?_⟩
      · cases i with
        | zero => exact ⟨w, j, rfl, q, by rw [e]; rfl⟩
        | succ i =>
          obtain ⟨w', j', a, b, c⟩ := h2 i (by omega)
          exact ⟨w', j', by simpa using a, by rw [e]; exact b, by rw [e, c]⟩
      · rcases h3 with ⟨a, b⟩ | ⟨w', a, b, c⟩
        · exact .inl ⟨by rw [a]; rfl, by simp [runE, q]; exact b⟩
        · exact .inr ⟨w', by simpa using a, by rw [e]; exact b, by simp [runE, q]; exact c⟩

noncomputable abbrev sE (want got : List Nat) (ws sp ep w : D) : List (Str × D) :=
  [(Str.ofString "want", tx want), (Str.ofString "got", tx got), (Str.ofString "ws", ws), (Str.ofString "startpos", sp), (Str.ofString "endpos", ep), (Str.ofString "w", w)]

section
variable {prog : Program} {w : World} {h₁ : Heap} {mg mb : Str → Option Value} {n : Nat} {sc : Scope} {σ σ' : List (Str × D)}

theorem ExL.asg2 {x y : Str} {px py tp pos : Pos} {k : Nat} {e : Expr} {d₁ d₂ : D} {σ'' : List (Str × D)} {rest : List Stmt} {o : Oc} (hs : ∀ env, swapsWithSole [.Tuple [.Name x px, .Name y py] k tp] e pos.line env = pure false)
    (hw : ∀ env, env.scope = sc → swappedStores [.Tuple [.Name x px, .Name y py] k tp] e env = pure (some [x, y])) (kx : KindS sc x) (ky : KindS sc y) (h : EvE prog w h₁ n sc σ e (.tuple [d₁, d₂])) (h1 : Set1 y d₂ σ σ') (h2 : Set1 x d₁ σ' σ'')
    (hr : ExL prog w h₁ n sc σ'' rest o) : ExL prog w h₁ n sc σ (.Assign [.Tuple [.Name x px, .Name y py] k tp] e pos :: rest) o := ExL.cons (ExS.assign2s h h1 h2 kx ky hs hw) hr

theorem ell_tail2 (B : Bs h₁ mg mb) (hlen : Glob mg mb (Str.ofString "len") (.builtin "len")) (want got : List Nat) (ws : List (List Nat)) (sp ep : Nat) (w0 : List Nat) (hzp : ∀ p ∈ ws, p.length ≤ 900) (hg : got.length ≤ 900) (hep : ep ≤ got.length) :
    ExL prog w h₁ n (fScope (stm 5)) (sE want got (.mlist (ws.map tx)) (.int (sp : Int)) (.int (ep : Int)) (tx w0)) ((fBody (stm 5)).drop 8) (.ret (.bool (if ep < sp then false else runE got ep sp ws))) := by
  conv => arg 7; whnf
  refine ExL.freeze (x := Str.ofString "ws") (xs := ws.map tx) (σ' := sE want got (tL ws) (.int (sp : Int)) (.int (ep : Int)) (tx w0)) (.tail _ (.tail _ (.head _))) (by rw [← tL_eq]; exact .there (.there .here)) ?_
  by_cases hsp : ep < sp
  · rw [if_pos hsp]
    refine ExL.ret (ExS.if_true (EvB.cast (d := decide ((ep : Int) < (sp : Int))) ?tst (by simp; omega)) (ExL.ret (ExS.return_ ?v)))
    case tst => repeat' walk_at "m ev"
    case v => walk_at "m ev"
  rw [if_neg hsp]
  refine ExL.cons (σ' := sE want got (tL ws) (.int (sp : Int)) (.int (ep : Int)) (tx w0)) (ExS.if_false (EvB.cast (d := decide ((ep : Int) < (sp : Int))) ?tst (by simp; omega)) ExL.nil) ?_
  case tst => repeat' walk_at "m ev"
  refine ExL.weak (σ' := sE want got (tL ws) (.int (sp : Int)) (.int (ep : Int)) .unset) (.same (.same (.same (.same (.same (.drop .nil)))))) ?_
  obtain ⟨k, hk, hstep, hend⟩ := run_spec got ep ws sp
  have body : ∀ (i : Nat) (wd : List Nat) (j : Nat), ws[i]? = some wd → findF got wd (spAt got ep sp ws i) ep = some j → spAt got ep sp ws (i + 1) = j + wd.length →
      ExL prog w h₁ n (fScope (stm 5)) (sE want got (tL ws) (.int (spAt got ep sp ws i : Int)) (.int (ep : Int)) (tx wd)) (match (fBody (stm 5)).getD 9 noD with | .For _ _ b _ _ => b | _ => []) (.next (sE want got (tL ws) (.int (spAt got ep sp ws (i + 1) : Int)) (.int (ep : Int)) .unset)) := by
    intro i wd j hwd hj hnext
    have hwl := hzp wd (List.mem_of_getElem? hwd)
    conv => arg 7; whnf
    refine ExL.asg (d := .int (j : Int)) (fun _ => rfl) (by decide +kernel) ?v (by walk_at "m set") ?_
    case v =>
      refine EvE.cast (d := .int (match findF got wd (spAt got ep sp ws i) ep with | some k => (k : Int) | none => -1)) ?_ (by rw [hj])
      refine EvE.mt ?_ ?_ MethE.find_t (CallE.find hep) (fun _ _ => rfl) (fun _ => rfl) (fun _ => rfl) (fun _ => rfl) (fun _ => rfl)
      all_goals repeat' walk_at "m ev"
    refine ExL.iff (c := decide ((j : Int) < 0)) (σ' := sE want got (tL ws) (.int (j : Int)) (.int (ep : Int)) (tx wd)) ?tst (fun q => ?yes) (fun _ => ExL.nil) ?_
    case tst => repeat' walk_at "m ev"
    case yes => exact absurd (of_decide_eq_true q) (by omega)
    refine ExL.cons (ExS.aug_add (a := (j : Int)) (b := (wd.length : Int)) (.tail _ (.tail _ (.tail _ (.head _)))) ?v (σ' := sE want got (tL ws) (.int (spAt got ep sp ws (i + 1) : Int)) (.int (ep : Int)) (tx wd)) (by rw [hnext, show (((j + wd.length : Nat) : Nat) : Int) = (j : Int) + (wd.length : Int) by omega]; exact .there (.there (.there .here))) (by decide +kernel)) (ExL.nil_weak (.same (.same (.same (.same (.same (.drop .nil)))))))
    case v =>
      repeat' walk_at "m ev"
      all_goals omega
  have asg : ∀ (i : Nat) (wd : List Nat), AsgE prog w h₁ (fScope (stm 5)) (sE want got (tL ws) (.int (spAt got ep sp ws i : Int)) (.int (ep : Int)) .unset) (match (fBody (stm 5)).getD 9 noD with | .For t _ _ _ _ => t | _ => default) (tx wd) (sE want got (tL ws) (.int (spAt got ep sp ws i : Int)) (.int (ep : Int)) (tx wd)) :=
    fun i wd => AsgE.name (.there (.there (.there (.there (.there .here))))) (by decide +kernel)
  have get : ∀ (i : Nat) (d' : D), (ws.map tx)[i]? = some d' → ∃ wd, ws[i]? = some wd ∧ d' = tx wd := fun i d' h => by
    rw [List.getElem?_map] at h
    obtain ⟨wd, h1, h2⟩ := Option.map_eq_some_iff.mp h
    exact ⟨wd, h1, h2.symm⟩
  have stepk : ∀ i d', i < k → (ws.map tx)[i]? = some d' → ∃ σm, AsgE prog w h₁ (fScope (stm 5)) (sE want got (tL ws) (.int (spAt got ep sp ws i : Int)) (.int (ep : Int)) .unset) (match (fBody (stm 5)).getD 9 noD with | .For t _ _ _ _ => t | _ => default) d' σm ∧
      ExL prog w h₁ n (fScope (stm 5)) σm (match (fBody (stm 5)).getD 9 noD with | .For _ _ b _ _ => b | _ => []) (.next (sE want got (tL ws) (.int (spAt got ep sp ws (i + 1) : Int)) (.int (ep : Int)) .unset)) := by
    intro i d' hi hd
    obtain ⟨wd, h1, rfl⟩ := get i d' hd
    obtain ⟨wd', j, h2, h3, h4⟩ := hstep i hi
    rw [h1] at h2; cases h2
    exact ⟨_, asg i wd, body i wd j h1 h3 h4⟩
  have hσ : (fun i => sE want got (tL ws) (.int (spAt got ep sp ws i : Int)) (.int (ep : Int)) .unset) 0 = sE want got (tL ws) (.int (sp : Int)) (.int (ep : Int)) .unset := by
    show sE want got (tL ws) (.int (spAt got ep sp ws 0 : Int)) (.int (ep : Int)) .unset = _
    rw [spAt_zero]
  rcases hend with ⟨he, hr⟩ | ⟨wd, hwd, hnone, hr⟩
  · rw [hr]
    refine ExL.cons (ExS.for_ (d := tL ws) (ds := ws.map tx) ?it IterE.T (fun i => sE want got (tL ws) (.int (spAt got ep sp ws i : Int)) (.int (ep : Int)) .unset) hσ k (by rw [List.length_map]; exact hk) stepk (.inl ⟨by rw [List.length_map]; exact he, rfl⟩) (fun _ _ => rfl)) (ExL.ret (ExS.return_ ?v))
    case it => walk_at "m ev"
    case v => walk_at "m ev"
  · rw [hr]
    refine ExL.ret (ExS.for_ (d := tL ws) (ds := ws.map tx) ?it IterE.T (fun i => sE want got (tL ws) (.int (spAt got ep sp ws i : Int)) (.int (ep : Int)) .unset) hσ k (by rw [List.length_map]; exact hk) stepk (.inr ⟨tx wd, _, .bool false, by rw [List.getElem?_map, hwd]; rfl, asg k wd, ?b, rfl⟩) (fun _ _ => rfl))
    case it => walk_at "m ev"
    case b =>
      conv => arg 7; whnf
      refine ExL.asg (d := .int (-1)) (fun _ => rfl) (by decide +kernel) ?v (by walk_at "m set") ?_
      case v =>
        refine EvE.cast (d := .int (match findF got wd (spAt got ep sp ws k) ep with | some k => (k : Int) | none => -1)) ?_ (by rw [hnone])
        refine EvE.mt ?_ ?_ MethE.find_t (CallE.find hep) (fun _ _ => rfl) (fun _ => rfl) (fun _ => rfl) (fun _ => rfl) (fun _ => rfl)
        all_goals repeat' walk_at "m ev"
      refine ExL.ret (ExS.if_true (EvB.cast (d := decide ((-1 : Int) < 0)) ?tst (by decide)) (ExL.ret (ExS.return_ ?v)))
      case tst => repeat' walk_at "m ev"
      case v => walk_at "m ev"

theorem seqIndex_last {len : Nat} (h : 0 < len) : seqIndex? (-1) len = some (len - 1) := by
  unfold seqIndex?
  have e : (-1 : Int) < 0 := by decide
  simp only [e, if_true]
  rw [if_pos (by simp; omega)]
  congr 1
  omega
theorem last_get {α : Type} {ws : List α} (h : ws ≠ []) (d : α) : ws[ws.length - 1]? = some (ws.getLastD d) := by
  rw [List.getLastD_eq_getLast?, List.getLast?_eq_getElem?, ]
  have : ws.length - 1 < ws.length := by have := List.length_pos_iff.mpr h; omega
  rw [List.getElem?_eq_getElem this]; rfl
theorem ell_tail1 (B : Bs h₁ mg mb) (hlen : Glob mg mb (Str.ofString "len") (.builtin "len")) (want got : List Nat) (ws : List (List Nat)) (sp : Nat) (w0 : List Nat) (hne : ws ≠ []) (hwl : ws.length ≤ 900) (hzp : ∀ p ∈ ws, p.length ≤ 900) (hg : got.length ≤ 900) :
    ExL prog w h₁ n (fScope (stm 5)) (sE want got (.mlist (ws.map tx)) (.int (sp : Int)) (.int (got.length : Int)) (tx w0)) ((fBody (stm 5)).drop 6) (.ret (.bool (ell2 ws got sp))) := by
  have hpos := List.length_pos_iff.mpr hne
  have hmem : ws.getLastD [] ∈ ws := List.mem_of_getElem? (last_get hne [])
  have hlz := hzp _ hmem
  conv => arg 7; whnf
  refine ExL.asg (d := tx (ws.getLastD [])) (fun _ => rfl) (by decide +kernel) ?v (by walk_at "m set") ?_
  case v =>
    refine EvE.item_m (i := -1) (.tail _ (.tail _ (.head _))) (by decide +kernel) ?_ (.inr ⟨by decide, by rw [List.length_map]; omega, by decide, ?_⟩) (fun _ _ => rfl)
    · exact EvE.neg EvE.const_int
    · rw [List.length_map, show ((-1 : Int) + (ws.length : Int)).toNat = ws.length - 1 by omega, List.getElem?_map, last_get hne []]; rfl
  have tst : EvB prog w h₁ n (fScope (stm 5)) (sE want got (.mlist (ws.map tx)) (.int (sp : Int)) (.int (got.length : Int)) (tx (ws.getLastD []))) (.Name (Str.ofString "w") (Pos.mk 49 7 49 8)) (decide (ws.getLastD [] ≠ [])) := by
    refine EvB.val (d := tx (ws.getLastD [])) ?_ (TruE.t (by omega)) (by intro _ _; rfl)
    walk_at "m ev"
  unfold ell2
  dsimp only
  by_cases h0 : ws.getLastD [] = []
  · rw [if_pos h0]
    rw [decide_eq_false (by simpa using h0)] at tst
    refine ExL.cons (σ' := sE want got (.mlist (ws.map tx)) (.int (sp : Int)) (.int (got.length : Int)) (tx (ws.getLastD []))) (ExS.if_false tst ExL.nil) ?_
    exact ell_tail2 B hlen want got ws sp got.length _ hzp hg (Nat.le_refl _)
  · rw [if_neg h0]
    rw [decide_eq_true h0] at tst
    by_cases hs : ws.getLastD [] <:+ got
    · rw [if_pos hs]
      have hsl := hs.length_le
      refine ExL.cons (σ' := sE want got (.mlist (ws.dropLast.map tx)) (.int (sp : Int)) (.int ((got.length - (ws.getLastD []).length : Nat) : Int)) (tx (ws.getLastD []))) (ExS.if_true tst ?b) ?_
      case b =>
        refine ExL.iff (c := true) (σ' := sE want got (.mlist (ws.dropLast.map tx)) (.int (sp : Int)) (.int ((got.length - (ws.getLastD []).length : Nat) : Int)) (tx (ws.getLastD []))) ?tst (fun _ => ?yes) (fun q => by cases q) ExL.nil
        case tst =>
          refine EvB.cast (d := decide (ws.getLastD [] <:+ got)) (EvB.val (d := .bool (decide (ws.getLastD [] <:+ got))) ?_ TruE.bool (by intro _ _; rfl)) (decide_eq_true hs)
          refine EvE.mt ?_ ?_ MethE.endswith_t CallE.endswith (fun _ _ => rfl) (fun _ => rfl) (fun _ => rfl) (fun _ => rfl) (fun _ => rfl)
          all_goals repeat' walk_at "m ev"
        case yes =>
          refine ExL.cons (ExS.aug_sub (a := (got.length : Int)) (b := ((ws.getLastD []).length : Int)) (.tail _ (.tail _ (.tail _ (.tail _ (.head _))))) ?v (σ' := sE want got (.mlist (ws.map tx)) (.int (sp : Int)) (.int ((got.length - (ws.getLastD []).length : Nat) : Int)) (tx (ws.getLastD [])))
            (by rw [show (((got.length - (ws.getLastD []).length : Nat) : Nat) : Int) = (got.length : Int) - ((ws.getLastD []).length : Int) by omega]; exact .there (.there (.there (.there .here)))) (by decide +kernel)) ?_
          case v =>
            repeat' walk_at "m ev"
            all_goals omega
          refine ExL.cons (ExS.del_m (i := -1) (k := ws.length - 1) (xs := ws.map tx) (.tail _ (.tail _ (.head _))) (by decide +kernel) (EvE.neg EvE.const_int) (by decide) (by rw [List.length_map]; exact seqIndex_last hpos) (by rw [List.length_map]; omega) (.there (.there .here))) ?_
          rw [show (ws.map tx).eraseIdx (ws.length - 1) = ws.dropLast.map tx by rw [show ws.length = (ws.map tx).length by simp, List.eraseIdx_length_sub_one, List.map_dropLast]]
          exact ExL.nil
      exact ell_tail2 B hlen want got ws.dropLast sp _ _ (fun p hp => hzp p (List.dropLast_subset _ hp)) hg (Nat.sub_le _ _)
    · rw [if_neg hs]
      refine ExL.ret (ExS.if_true tst (ExL.ret (ExS.if_false ?tst (ExL.ret (ExS.return_ ?v)))))
      case tst =>
        refine EvB.cast (d := decide (ws.getLastD [] <:+ got)) (EvB.val (d := .bool (decide (ws.getLastD [] <:+ got))) ?_ TruE.bool (by intro _ _; rfl)) (decide_eq_false hs)
        refine EvE.mt ?_ ?_ MethE.endswith_t CallE.endswith (fun _ _ => rfl) (fun _ => rfl) (fun _ => rfl) (fun _ => rfl) (fun _ => rfl)
        all_goals repeat' walk_at "m ev"
      case v => walk_at "m ev"

theorem ell_calls (B : Bs h₁ mg mb) (hlen : Glob mg mb (Str.ofString "len") (.builtin "len")) {tm : Tok} (hmark : Glob mg mb (Str.ofString "ELLIPSIS_MARKER") (.str (S dot3) tm)) {a : Addr} (hf : FnAt h₁ mg 5 a) (parts : List (List Nat)) (got : List Nat)
    (hp2 : 2 ≤ parts.length) (hnd : ∀ p ∈ parts, NoDot p) (hz : (inter dot3 parts).length ≤ 900) (hpl : parts.length ≤ 900) (hzp : ∀ p ∈ parts, p.length ≤ 900) (hg : got.length ≤ 900) :
    CallE prog w h₁ (n + 1) (.ref a) [tx (inter dot3 parts), tx got] (.bool (ellF parts got)) := by
  obtain ⟨o, pm, cd, doc, ho, hd, hcd⟩ := hf.obj
  refine CallE.fn B (xs := [Str.ofString "want", Str.ofString "got"]) (σ₀ := sE (inter dot3 parts) got .unset .unset .unset .unset) ho hd hcd (fun vs hv => ?_) rfl (by decide +kernel) (by decide +kernel) (by simp) (by show List.Nodup [Str.ofString "want", Str.ofString "got", Str.ofString "ws", Str.ofString "startpos", Str.ofString "endpos", Str.ofString "w"]; decide +kernel) (by intro x xs h; simp [tx] at h) ?_
  · obtain ⟨v, u, rfl⟩ := list_two vs hv
    rfl
  conv => arg 7; whnf
  have hne : parts ≠ [] := by intro q; rw [q] at hp2; simp at hp2
  have mk : EvE prog w h₁ n (fScope (stm 5)) (sE (inter dot3 parts) got .unset .unset .unset .unset) (.Name (Str.ofString "ELLIPSIS_MARKER") (Pos.mk 0 0 0 0)) (tx dot3) := EvE.glob_str B (by decide +kernel) hmark (by decide +kernel)
  have hc : Txt.contains (S (inter dot3 parts)) (S dot3) = true := by
    match parts, hp2 with
    | p :: q :: r, _ => rw [inter]; exact contains_mid _ _ _
  refine ExL.iff (c := false) (σ' := sE (inter dot3 parts) got .unset .unset .unset .unset) ?tst (fun q => by cases q) (fun _ => ExL.nil) ?_
  case tst =>
    refine EvB.cmp' (by with_unfolding_all rfl) ?_ ?_ (CmpE.notin_t hc)
    · exact EvE.glob_str B (by decide +kernel) hmark (by decide +kernel)
    · walk_at "m ev"
  refine ExL.asg_m (xs := parts.map tx) (fun _ => rfl) (by decide +kernel) (EvM.split hne hnd (by omega) ?want (EvE.glob_str B (by decide +kernel) hmark (by decide +kernel)) (fun _ _ => rfl) (fun _ => rfl) (fun _ => rfl)) (by walk_at "m set") ?_
  case want => walk_at "m ev"
  refine ExL.cons (ExS.assert_ (EvB.cast (d := decide ((2 : Int) ≤ ((parts.map tx).length : Int))) ?tst (by simp; omega))) ?_
  case tst =>
    refine EvB.cmp' (by with_unfolding_all rfl) (EvE.len_m B hlen (by decide +kernel) (by decide +kernel) (.tail _ (.tail _ (.head _))) (by decide +kernel) (by rw [List.length_map]; omega)) ?_ CmpE.ge_int
    walk_at "m ev"
  refine ExL.asg2 (d₁ := .int 0) (d₂ := .int (got.length : Int)) (fun _ => rfl) (by intro env h; cases env; cases h; rfl) (by decide +kernel) (by decide +kernel) ?v (.there (.there (.there (.there .here)))) (.there (.there (.there .here))) ?_
  case v =>
    refine EvE.tuple' ?_ (by simp)
    repeat' walk_at "m ev"
    all_goals omega
  have hhead : parts[0]? = some (parts.headD []) := by
    match parts, hne with
    | p :: r, _ => rfl
  have hmem : parts.headD [] ∈ parts := List.mem_of_getElem? hhead
  have hlz := hzp _ hmem
  refine ExL.asg (d := tx (parts.headD [])) (fun _ => rfl) (by decide +kernel) ?v (by walk_at "m set") ?_
  case v =>
    refine EvE.item_m (i := 0) (.tail _ (.tail _ (.head _))) (by decide +kernel) EvE.const_int (.inl ⟨by decide, by decide, ?_⟩) (fun _ _ => rfl)
    rw [show ((0 : Int)).toNat = 0 from rfl, List.getElem?_map, hhead]; rfl
  have tst : EvB prog w h₁ n (fScope (stm 5)) (sE (inter dot3 parts) got (.mlist (parts.map tx)) (.int 0) (.int (got.length : Int)) (tx (parts.headD []))) (.Name (Str.ofString "w") (Pos.mk 42 7 42 8)) (decide (parts.headD [] ≠ [])) := by
    refine EvB.val (d := tx (parts.headD [])) ?_ (TruE.t (by omega)) (by intro _ _; rfl)
    walk_at "m ev"
  unfold ellF
  dsimp only
  by_cases h0 : parts.headD [] = []
  · rw [if_pos h0]
    rw [decide_eq_false (by simpa using h0)] at tst
    refine ExL.cons (σ' := sE (inter dot3 parts) got (.mlist (parts.map tx)) (.int 0) (.int (got.length : Int)) (tx (parts.headD []))) (ExS.if_false tst ExL.nil) ?_
    exact ell_tail1 B hlen _ got parts 0 _ hne hpl hzp hg
  · rw [if_neg h0]
    rw [decide_eq_true h0] at tst
    by_cases hs : parts.headD [] <+: got
    · rw [if_pos hs]
      refine ExL.cons (σ' := sE (inter dot3 parts) got (.mlist (parts.tail.map tx)) (.int ((parts.headD []).length : Int)) (.int (got.length : Int)) (tx (parts.headD []))) (ExS.if_true tst ?b) ?_
      case b =>
        refine ExL.iff (c := true) (σ' := sE (inter dot3 parts) got (.mlist (parts.tail.map tx)) (.int ((parts.headD []).length : Int)) (.int (got.length : Int)) (tx (parts.headD []))) ?tst (fun _ => ?yes) (fun q => by cases q) ExL.nil
        case tst =>
          refine EvB.cast (d := decide (parts.headD [] <+: got)) (EvB.val (d := .bool (decide (parts.headD [] <+: got))) ?_ TruE.bool (by intro _ _; rfl)) (decide_eq_true hs)
          refine EvE.mt ?_ ?_ MethE.startswith_t CallE.startswith (fun _ _ => rfl) (fun _ => rfl) (fun _ => rfl) (fun _ => rfl) (fun _ => rfl)
          all_goals repeat' walk_at "m ev"
        case yes =>
          refine ExL.asg (d := .int ((parts.headD []).length : Int)) (fun _ => rfl) (by decide +kernel) ?v (by walk_at "m set") ?_
          case v =>
            repeat' walk_at "m ev"
            all_goals omega
          refine ExL.cons (ExS.del_m (i := 0) (k := 0) (xs := parts.map tx) (.tail _ (.tail _ (.head _))) (by decide +kernel) EvE.const_int (by decide) (by rw [List.length_map]; exact seqIndex_nat (by decide) (by simp; omega)) (by rw [List.length_map]; omega) (.there (.there .here))) ?_
          rw [show (parts.map tx).eraseIdx 0 = parts.tail.map tx by rw [List.eraseIdx_zero, List.map_tail]]
          exact ExL.nil
      exact ell_tail1 B hlen _ got parts.tail _ _ (by intro q; have := congrArg List.length q; simp at this; omega) (by simp; omega) (fun p hp => hzp p (List.mem_of_mem_tail hp)) hg
    · rw [if_neg hs]
      refine ExL.ret (ExS.if_true tst (ExL.ret (ExS.if_false ?tst (ExL.ret (ExS.return_ ?v)))))
      case tst =>
        refine EvB.cast (d := decide (parts.headD [] <+: got)) (EvB.val (d := .bool (decide (parts.headD [] <+: got))) ?_ TruE.bool (by intro _ _; rfl)) (decide_eq_false hs)
        refine EvE.mt ?_ ?_ MethE.startswith_t CallE.startswith (fun _ _ => rfl) (fun _ => rfl) (fun _ => rfl) (fun _ => rfl) (fun _ => rfl)
        all_goals repeat' walk_at "m ev"
      case v => walk_at "m ev"
end
end Mine
end

-- part MFits
section

open PySem PySem.W PyProof.Rows
set_option linter.unusedVariables false
set_option maxRecDepth 100000
namespace Mine


/-- some pattern fits -/
noncomputable def fitsF (pats : List (List (List Nat))) (text : List Nat) : Bool := pats.any fun parts => ellF parts text
/-- what a pattern's parts must be -/
structure PatOk (parts : List (List Nat)) : Prop where
  two : 2 ≤ parts.length
  nodot : ∀ p ∈ parts, NoDot p
  len : (inter dot3 parts).length ≤ 900
  many : parts.length ≤ 900
  each : ∀ p ∈ parts, p.length ≤ 900

noncomputable def hideF (row : List (List Nat)) (k size : Nat) : List Nat := stripF ((row.take k ++ [[34]] ++ (row.take (k + size)).drop k ++ [[34]] ++ row.drop (k + size)).flatten)

section
variable {prog : Program} {w : World} {h₁ : Heap} {mg mb : Str → Option Value} {n : Nat} {sc : Scope} {σ σ' : List (Str × D)}

theorem fits_calls (B : Bs h₁ mg mb) (hlen : Glob mg mb (Str.ofString "len") (.builtin "len")) {tm : Tok} (hmark : Glob mg mb (Str.ofString "ELLIPSIS_MARKER") (.str (S dot3) tm)) {a5 a : Addr} (hf5 : FnAt h₁ mg 5 a5) (hf : FnAt h₁ mg 11 a)
    (pats : List (List (List Nat))) (text : List Nat) (hp : ∀ p ∈ pats, PatOk p) (ht : text.length ≤ 900) :
    CallE prog w h₁ (n + 2) (.ref a) [tL (pats.map (inter dot3)), tx text] (.bool (fitsF pats text)) := by
  obtain ⟨o, pm, cd, doc, ho, hd, hcd⟩ := hf.obj
  refine CallE.fn B (xs := [Str.ofString "patterns", Str.ofString "text"]) (σ₀ := [(Str.ofString "patterns", tL (pats.map (inter dot3))), (Str.ofString "text", tx text), (Str.ofString "pattern", .unset)]) ho hd hcd (fun vs hv => ?_) rfl (by decide +kernel) (by decide +kernel) (by simp) (by show List.Nodup [Str.ofString "patterns", Str.ofString "text", Str.ofString "pattern"]; decide +kernel) (by intro x xs h; simp [tx, tL] at h) ?_
  · obtain ⟨v, u, rfl⟩ := list_two vs hv
    rfl
  have get : ∀ (i : Nat) (d' : D), ((pats.map (inter dot3)).map tx)[i]? = some d' → ∃ p, pats[i]? = some p ∧ d' = tx (inter dot3 p) := fun i d' h => by
    rw [List.map_map, List.getElem?_map] at h
    obtain ⟨wd, h1, h2⟩ := Option.map_eq_some_iff.mp h
    exact ⟨wd, h1, h2.symm⟩
  have asg : ∀ (p : List (List Nat)), AsgE prog w h₁ (fScope (stm 11)) [(Str.ofString "patterns", tL (pats.map (inter dot3))), (Str.ofString "text", tx text), (Str.ofString "pattern", .unset)] (match (fBody (stm 11)).getD 0 noD with | .For t _ _ _ _ => t | _ => default) (tx (inter dot3 p))
      [(Str.ofString "patterns", tL (pats.map (inter dot3))), (Str.ofString "text", tx text), (Str.ofString "pattern", tx (inter dot3 p))] := fun p => AsgE.name (.there (.there .here)) (by decide +kernel)
  have test : ∀ (p : List (List Nat)) (r : Bool) (fp q1 q2 q3 : Pos), p ∈ pats → ellF p text = r → EvB prog w h₁ (n + 1) (fScope (stm 11)) [(Str.ofString "patterns", tL (pats.map (inter dot3))), (Str.ofString "text", tx text), (Str.ofString "pattern", tx (inter dot3 p))]
      (.Call (.Name (Str.ofString "_ellipsis_match") fp) [.Name (Str.ofString "pattern") q1, .Name (Str.ofString "text") q2] [] q3) r := fun p r fp q1 q2 q3 hm hr => by
    have ok := hp p hm
    refine EvB.val (d := .bool r) ?_ TruE.bool (by intro _ _; rfl)
    rw [← hr]
    refine EvE.call_def B hf5 (by decide +kernel) (by decide +kernel) (by decide +kernel) (fun _ => rfl) ?_ (ell_calls B hlen hmark hf5 p text ok.two ok.nodot ok.len ok.many ok.each ht)
    repeat' walk_at "m ev"
  have stepF : ∀ (p : List (List Nat)), p ∈ pats → ellF p text = false → ExL prog w h₁ (n + 1) (fScope (stm 11)) [(Str.ofString "patterns", tL (pats.map (inter dot3))), (Str.ofString "text", tx text), (Str.ofString "pattern", tx (inter dot3 p))]
      (match (fBody (stm 11)).getD 0 noD with | .For _ _ b _ _ => b | _ => []) (.next [(Str.ofString "patterns", tL (pats.map (inter dot3))), (Str.ofString "text", tx text), (Str.ofString "pattern", .unset)]) := fun p hm hr => by
    conv => arg 7; whnf
    exact ExL.cons (ExS.if_false (test p false _ _ _ _ hm hr) ExL.nil) (ExL.nil_weak (.same (.same (.drop .nil))))
  have stepT : ∀ (p : List (List Nat)), p ∈ pats → ellF p text = true → ExL prog w h₁ (n + 1) (fScope (stm 11)) [(Str.ofString "patterns", tL (pats.map (inter dot3))), (Str.ofString "text", tx text), (Str.ofString "pattern", tx (inter dot3 p))]
      (match (fBody (stm 11)).getD 0 noD with | .For _ _ b _ _ => b | _ => []) (.ret (.bool true)) := fun p hm hr => by
    conv => arg 7; whnf
    exact ExL.ret (ExS.if_true (test p true _ _ _ _ hm hr) (ExL.ret (ExS.return_ EvE.const_bool)))
  have hlist : EvE prog w h₁ (n + 1) (fScope (stm 11)) [(Str.ofString "patterns", tL (pats.map (inter dot3))), (Str.ofString "text", tx text), (Str.ofString "pattern", .unset)] (match (fBody (stm 11)).getD 0 noD with | .For _ i _ _ _ => i | _ => default) (tL (pats.map (inter dot3))) := EvE.nm .here rfl (by decide +kernel)
  conv => arg 7; whnf
  let k := pats.findIdx fun parts => ellF parts text
  have hbefore : ∀ i p, i < k → pats[i]? = some p → ellF p text = false := fun i p hi hpi => by
    have hlt : i < pats.length := Nat.lt_of_lt_of_le hi List.findIdx_le_length
    have := List.not_of_lt_findIdx hi
    rw [List.getElem?_eq_getElem hlt] at hpi
    rw [← Option.some.inj hpi]; simpa using this
  have stepk : ∀ i d', i < k → ((pats.map (inter dot3)).map tx)[i]? = some d' → ∃ σm, AsgE prog w h₁ (fScope (stm 11)) [(Str.ofString "patterns", tL (pats.map (inter dot3))), (Str.ofString "text", tx text), (Str.ofString "pattern", .unset)] (match (fBody (stm 11)).getD 0 noD with | .For t _ _ _ _ => t | _ => default) d' σm ∧
      ExL prog w h₁ (n + 1) (fScope (stm 11)) σm (match (fBody (stm 11)).getD 0 noD with | .For _ _ b _ _ => b | _ => []) (.next [(Str.ofString "patterns", tL (pats.map (inter dot3))), (Str.ofString "text", tx text), (Str.ofString "pattern", .unset)]) := fun i d' hi hd => by
    obtain ⟨p, h1, rfl⟩ := get i d' hd
    exact ⟨_, asg p, stepF p (List.mem_of_getElem? h1) (hbefore i p hi h1)⟩
  by_cases hk : k < pats.length
  · have hpk : ellF pats[k] text = true := List.findIdx_getElem (w := hk)
    have hr : fitsF pats text = true := List.any_eq_true.mpr ⟨_, List.getElem_mem hk, hpk⟩
    rw [hr]
    exact ExL.ret (ExS.for_ (d := tL (pats.map (inter dot3))) hlist IterE.T (fun _ => [(Str.ofString "patterns", tL (pats.map (inter dot3))), (Str.ofString "text", tx text), (Str.ofString "pattern", .unset)]) rfl k (by simp; omega) stepk
      (.inr ⟨tx (inter dot3 pats[k]), _, .bool true, by rw [List.map_map, List.getElem?_map, List.getElem?_eq_getElem hk]; rfl, asg _, stepT _ (List.getElem_mem hk) hpk, rfl⟩) (fun _ _ => rfl))
  · have hke : k = pats.length := Nat.le_antisymm List.findIdx_le_length (Nat.not_lt.mp hk)
    have hr : fitsF pats text = false := by
      unfold fitsF
      rw [List.any_eq_false]
      intro p hp'
      obtain ⟨i, hi, rfl⟩ := List.mem_iff_getElem.mp hp'
      rw [hbefore i _ (by omega) (List.getElem?_eq_getElem hi)]; decide
    rw [hr]
    exact ExL.cons (ExS.for_ (d := tL (pats.map (inter dot3))) hlist IterE.T (fun _ => [(Str.ofString "patterns", tL (pats.map (inter dot3))), (Str.ofString "text", tx text), (Str.ofString "pattern", .unset)]) rfl k (by simp; omega) stepk (.inl ⟨by simpa using hke, rfl⟩) (fun _ _ => rfl)) (ExL.ret (ExS.return_ EvE.const_bool))

theorem hide_calls (B : Bs h₁ mg mb) (hlen : Glob mg mb (Str.ofString "len") (.builtin "len")) (henum : Glob mg mb (Str.ofString "enumerate") (.type "enumerate")) {a1 a2 a : Addr} (hf1 : FnAt h₁ mg 1 a1) (hf2 : FnAt h₁ mg 2 a2) (hf : FnAt h₁ mg 9 a)
    (row : List (List Nat)) (k size : Nat) (hr : row.length ≤ 100) (ht : tot row ≤ 200) (hl : ∀ x ∈ row, ∀ c ∈ x, c < 128) :
    CallE prog w h₁ (n + 4) (.ref a) [tL row, .int (k : Int), .int (size : Int)] (tx (hideF row k size)) := by
  obtain ⟨o, pm, cd, doc, ho, hd, hcd⟩ := hf.obj
  refine CallE.fn B (xs := [Str.ofString "row", Str.ofString "k", Str.ofString "size"]) (σ₀ := [(Str.ofString "row", tL row), (Str.ofString "k", .int (k : Int)), (Str.ofString "size", .int (size : Int))]) ho hd hcd (fun vs hv => ?_) rfl (by decide +kernel) (by decide +kernel) (by simp) (by show List.Nodup [Str.ofString "row", Str.ofString "k", Str.ofString "size"]; decide +kernel) (by intro x xs h; simp [tx, tL] at h) ?_
  · obtain ⟨v, u, x, rfl⟩ := list_three vs hv
    rfl
  conv => arg 7; whnf
  refine ExL.ret (ExS.return_ ?_)
  have h1 := tot_take row k
  have h2 := tot_drop row (k + size)
  have h3 := tot_drop (row.take (k + size)) k
  have h4 := tot_take row (k + size)
  have hlen' : ((row.take k ++ [[34]] ++ (row.take (k + size)).drop k ++ [[34]] ++ row.drop (k + size)).flatten).length ≤ 900 := by
    rw [len_flatten]
    simp only [tot, List.map_append, List.sum_append, List.map_cons, List.map_nil, List.sum_cons, List.sum_nil, List.length_cons, List.length_nil] at *
    omega
  have hchars : ∀ c ∈ (row.take k ++ [[34]] ++ (row.take (k + size)).drop k ++ [[34]] ++ row.drop (k + size)).flatten, c < 128 := by
    intro c hc
    obtain ⟨x, hx, hcx⟩ := List.mem_flatten.mp hc
    simp only [List.mem_append, List.mem_singleton] at hx
    rcases hx with (((hx | hx) | hx) | hx) | hx
    · exact hl x (List.mem_of_mem_take hx) c hcx
    · subst hx; simp at hcx; omega
    · exact hl x (List.mem_of_mem_take (List.mem_of_mem_drop hx)) c hcx
    · subst hx; simp at hcx; omega
    · exact hl x (List.mem_of_mem_drop hx) c hcx
  refine EvE.call_def B hf2 (by decide +kernel) (by decide +kernel) (by decide +kernel) (fun _ => rfl) ?_ (strip_calls B hlen henum hf1 hf2 _ hchars hlen')
  refine EvL.cons' ?_ EvL.nil (fun _ => rfl)
  rw [← inter_nil]
  have e : row.take k ++ [[34]] ++ (row.take (k + size)).drop k ++ [[34]] ++ row.drop (k + size) = cut row none (some (k : Int)) ++ [[34]] ++ cut row (some (k : Int)) (some ((k : Int) + (size : Int))) ++ [[34]] ++ cut row (some ((k : Int) + (size : Int))) none := by
    rw [cut_upto, show (k : Int) + (size : Int) = ((k + size : Nat) : Int) by omega, cut_both, cut_from]
  have hlen2 := hlen'
  rw [len_flatten, e] at hlen2
  have c1 := cut_length row none (some (k : Int))
  have c2 := cut_length row (some (k : Int)) (some ((k : Int) + (size : Int)))
  have c3 := cut_length row (some ((k : Int) + (size : Int))) none
  rw [e]
  clear hlen' hchars h1 h2 h3 h4 e
  repeat' walk_at "m ev"
  all_goals (first | omega | (simp only [List.length_append, List.length_cons, List.length_nil]; omega) | (simp only [List.length_nil, Nat.mul_zero, Nat.add_zero]; exact Nat.le_trans hlen2 (by decide)))
end
end Mine
end

-- part MSigns
section

open PySem PySem.W PyProof.Rows
set_option linter.unusedVariables false
set_option maxRecDepth 100000
namespace Mine


/-- the four signs -/
noncomputable abbrev Sg (x : List Nat) : Prop := x = [97] ∨ x = [40] ∨ x = [92, 34] ∨ x = [92, 92]
theorem Sg.pos {x : List Nat} (h : Sg x) : 1 ≤ x.length ∧ x.length ≤ 2 := by rcases h with rfl | rfl | rfl | rfl <;> simp
theorem Sg.head {x : List Nat} (h : Sg x) : ∃ c, x[0]? = some c ∧ x.length = if c = 92 then 2 else 1 := by rcases h with rfl | rfl | rfl | rfl <;> exact ⟨_, rfl, rfl⟩
theorem tot_sg {row : List (List Nat)} (h : ∀ x ∈ row, Sg x) : row.length ≤ tot row ∧ tot row ≤ 2 * row.length := by
  induction row with
  | nil => simp [tot]
  | cons x r ih =>
    have h1 := (h x (List.mem_cons_self ..)).pos
    have h2 := ih fun y hy => h y (List.mem_cons_of_mem _ hy)
    simp only [tot, List.map_cons, List.sum_cons, List.length_cons] at h2 ⊢
    omega
theorem Sg.lt {x : List Nat} (h : Sg x) : ∀ c ∈ x, c < 128 ∧ c ≠ 46 := by
  rcases h with rfl | rfl | rfl | rfl <;> simp

section
variable {prog : Program} {w : World} {h₁ : Heap} {mg mb : Str → Option Value} {n : Nat} {sc : Scope} {σ σ' : List (Str × D)}

noncomputable abbrev sG (l : List Nat) (row : List (List Nat)) (k : Nat) (sz : D) : List (Str × D) := [(Str.ofString "text", tx l), (Str.ofString "signs", .mlist (row.map tx)), (Str.ofString "k", .int (k : Int)), (Str.ofString "size", sz)]

theorem signs_calls (B : Bs h₁ mg mb) (hlen : Glob mg mb (Str.ofString "len") (.builtin "len")) {a : Addr} (hf : FnAt h₁ mg 8 a) (row : List (List Nat)) (hsg : ∀ x ∈ row, Sg x) (hr : row.length ≤ 100) :
    CallE prog w h₁ (n + 1) (.ref a) [tx row.flatten] (tL row) := by
  obtain ⟨o, pm, cd, doc, ho, hd, hcd⟩ := hf.obj
  refine CallE.fn B (xs := [Str.ofString "text"]) (σ₀ := [(Str.ofString "text", tx row.flatten), (Str.ofString "signs", .unset), (Str.ofString "k", .unset), (Str.ofString "size", .unset)]) ho hd hcd (fun vs hv => ?_) rfl (by decide +kernel) (by decide +kernel) (by simp) (by show List.Nodup [Str.ofString "text", Str.ofString "signs", Str.ofString "k", Str.ofString "size"]; decide +kernel) (by intro x xs h; simp [tx] at h) ?_
  · obtain ⟨v, rfl⟩ := list_one vs hv
    rfl
  have htot := tot_sg hsg
  have hl : row.flatten.length ≤ 200 := by rw [len_flatten]; omega
  have htake : ∀ i, ((row.take i).flatten).length ≤ row.flatten.length := fun i => by rw [len_flatten, len_flatten]; exact tot_take row i
  conv => arg 7; whnf
  refine ExL.cons (ExS.pair_mi (σ' := [(Str.ofString "text", tx row.flatten), (Str.ofString "signs", .unset), (Str.ofString "k", .int 0), (Str.ofString "size", .unset)]) (σ'' := sG row.flatten [] 0 .unset) (by intro x xs h; simp [tx] at h) (.there (.there .here)) (.there .here) (by decide +kernel) (by decide +kernel) (by intro env h; cases env; cases h; rfl)) ?_
  have test : ∀ i (b : Bool) p1 p2 p3 p4 p5, decide ((((row.take i).flatten).length : Int) < (row.flatten.length : Int)) = b → EvB prog w h₁ n (fScope (stm 8)) (sG row.flatten (row.take i) ((row.take i).flatten).length .unset)
      (.Compare (.Name (Str.ofString "k") p1) [.Lt] [.Call (.Name (Str.ofString "len") p2) [.Name (Str.ofString "text") p3] [] p4] p5) b := fun i b p1 p2 p3 p4 p5 hb => by
    refine EvB.cast (d := decide ((((row.take i).flatten).length : Int) < (row.flatten.length : Int))) ?_ hb
    repeat' walk_at "m ev"
    all_goals omega
  refine ExL.cons (ExS.while_ (fun i => sG row.flatten (row.take i) ((row.take i).flatten).length .unset) (by simp) row.length (fun i hi => ⟨test i true _ _ _ _ _ ?t, ?b⟩) (test row.length false _ _ _ _ _ ?f)) ?_
  case f => rw [List.take_length]; exact decide_eq_false (by omega)
  case t =>
    have e : row.flatten = (row.take i).flatten ++ (row[i] ++ (row.drop (i + 1)).flatten) := by
      rw [← List.flatten_cons, ← List.drop_eq_getElem_cons hi, ← List.flatten_append, List.take_append_drop]
    have hp := (hsg row[i] (List.getElem_mem hi)).pos
    have := congrArg List.length e
    simp only [List.length_append] at this
    exact decide_eq_true (by omega)
  case b =>
    have hs := hsg row[i] (List.getElem_mem hi)
    obtain ⟨c, hc, hcl⟩ := hs.head
    have hp := hs.pos
    have e : row.flatten = (row.take i).flatten ++ (row[i] ++ (row.drop (i + 1)).flatten) := by
      rw [← List.flatten_cons, ← List.drop_eq_getElem_cons hi, ← List.flatten_append, List.take_append_drop]
    have e2 : row.take (i + 1) = row.take i ++ [row[i]] := (List.take_append_getElem hi).symm
    have hlen2 : ((row.take (i + 1)).flatten).length = ((row.take i).flatten).length + row[i].length := by rw [e2, List.flatten_append, List.length_append, show ([row[i]] : List (List Nat)).flatten = row[i] by simp]
    have hle := htake (i + 1)
    have hk : row.flatten[((row.take i).flatten).length]? = some c := by
      rw [e, List.getElem?_append_right (Nat.le_refl _), Nat.sub_self, List.getElem?_append_left (by omega)]; exact hc
    have hdrop : (row.flatten.drop ((row.take i).flatten).length).take row[i].length = row[i] := by
      conv => lhs; rw [e, List.drop_left, List.take_left]
    have il : (row.take i).length ≤ 100 := by rw [List.length_take]; omega
    generalize ((row.take i).flatten).length = K at hk hlen2 hdrop ⊢
    refine ExL.asg (d := .int (row[i].length : Int)) (fun _ => rfl) (by decide +kernel) ?v (by walk_at "m set") ?_
    case v =>
      refine EvE.ifexp (c := decide (([c] : List Nat) = [92])) ?tst (fun h => ?yes) (fun h => ?no)
      case tst =>
        refine EvB.cmp' (by with_unfolding_all rfl) (d₁ := tx [c]) (d₂ := tx [92]) ?_ (by walk_at "m ev") CmpE.eq_t
        refine EvE.sub' (fun _ _ => rfl) (d₁ := tx row.flatten) (d₂ := .int (K : Int)) (by walk_at "m ev") (by walk_at "m ev") ?_
        exact GetE.str (x := S row.flatten) (i := (K : Int)) (by omega) (by omega) (by rw [S_toList, Int.toNat_natCast]; exact hk)
      case yes =>
        have h : c = 92 := by simpa using h
        rw [hcl, if_pos h]; exact EvE.const_int
      case no =>
        have h : ¬ c = 92 := by simpa using h
        rw [hcl, if_neg h]; exact EvE.const_int
    have hz' : (S row.flatten).length ≤ sizeLine := by rw [S_length]; have : sizeLine = 16777216 := rfl; omega
    refine ExL.app (xs := (row.take i).map tx) (d := tx row[i]) (fun _ => rfl) (fun _ => rfl) (by intro env h; cases env; cases h; rfl) (by decide +kernel) (.there .here) ?v (.there .here) (by rw [List.length_map]; omega) ?_
    case v =>
      refine EvE.slice_str (x := S row.flatten) (y := S row[i]) (a := some (K : Int)) (b := some ((K + row[i].length : Nat) : Int)) (EvE.nm .here rfl (by decide +kernel)) (EvP.some (EvE.nm (.there (.there .here)) rfl (by decide +kernel))) (EvP.some (EvE.cast (d := .int ((K : Int) + (row[i].length : Int))) ?_ (by congr 1))) ?_ hz'
      · repeat' walk_at "m ev"
      · have h := cutS_side (S row.flatten) (a := K) (b := K + row[i].length) (by omega) (by rw [S_length]; omega)
        rw [show (⟨(((S row.flatten).cps.toList.drop K).take (K + row[i].length - K)).toArray⟩ : Str) = S row[i] by rw [S_toList, show K + row[i].length - K = row[i].length by omega, hdrop]; rfl] at h
        exact h
    refine ExL.asg (d := .int ((K + row[i].length : Nat) : Int)) (fun _ => rfl) (by decide +kernel) ?v (σ' := sG row.flatten (row.take (i + 1)) ((row.take (i + 1)).flatten).length (.int (row[i].length : Int))) ?s (ExL.nil_weak (.same (.same (.same (.drop .nil)))))
    case v =>
      refine EvE.cast (d := .int ((K : Int) + (row[i].length : Int))) ?_ (by congr 1)
      repeat' walk_at "m ev"
    case s =>
      rw [hlen2, e2]
      unfold sG
      rw [List.map_append]
      exact .there (.there .here)
  · show ExL prog w h₁ n (fScope (stm 8)) (sG row.flatten (row.take row.length) ((row.take row.length).flatten).length .unset) _ _
    rw [List.take_length]
    refine ExL.freeze (x := Str.ofString "signs") (xs := row.map tx) (.tail _ (.head _)) (.there .here) ?_
    rw [tL_eq]
    refine ExL.ret (ExS.return_ ?_)
    walk_at "m ev"
end
end Mine
end

-- part MRows
section

open PySem PySem.W PyProof.Rows
set_option linter.unusedVariables false
set_option maxRecDepth 100000
namespace Mine


/-- the sign of a number -/
noncomputable def kd (x : Int) : List Nat := match (x.fmod 4).toNat with | 0 => [97] | 1 => [40] | 2 => [92, 34] | _ => [92, 92]
theorem kd_sg (x : Int) : Sg (kd x) := by
  unfold kd Sg
  split <;> simp
theorem fmod_range (x m : Int) (h : 0 < m) : 0 ≤ x.fmod m ∧ x.fmod m < m := by
  rw [Int.fmod_eq_emod_of_nonneg _ (Int.le_of_lt h)]
  exact ⟨Int.emod_nonneg _ (by omega), Int.emod_lt_of_pos _ h⟩
noncomputable abbrev kindsD : D := .tuple [tx [97], tx [40], tx [92, 34], tx [92, 92]]

/-- the law's two rows -/
noncomputable def rowOf (ns : List Int) : List (List Nat) := ns.map kd
noncomputable def sizeOf' (ns : List Int) : Nat := 1 + (((ns.getD 0 0).fdiv 4).fmod 2).toNat
noncomputable def leftAt (ns : List Int) (out : Nat) : List (List Nat) := (rowOf ns).take out ++ (rowOf ns).drop (out + sizeOf' ns)
noncomputable def putAt (ns : List Int) (left : List (List Nat)) (place : Nat) : List (List Nat) := left.take place ++ ((ns.take (2 + sizeOf' ns)).drop 2).map (fun x => kd (x.fdiv 8)) ++ left.drop place
noncomputable def otherOf (ns : List Int) : List (List Nat) :=
  let other := putAt ns (leftAt ns (((ns.getD 0 0).fdiv 8).fmod ((ns.length - sizeOf' ns + 1 : Nat) : Int)).toNat) (((ns.getD 1 0).fdiv 4).fmod ((ns.length - sizeOf' ns + 1 : Nat) : Int)).toNat
  if other = rowOf ns then (rowOf ns).dropLast ++ [kd (ns.getD (ns.length - 1) 0 + 1)] else other

section
variable {prog : Program} {w : World} {h₁ : Heap} {mg mb : Str → Option Value} {n : Nat} {sc : Scope} {σ σ' : List (Str × D)}

theorem GetE.kinds {x : Int} : GetE prog w h₁ kindsD (.int (x.fmod 4)) (tx (kd x)) := by
  obtain ⟨h1, h2⟩ := fmod_range x 4 (by decide)
  refine GetE.tuple h1 (by omega) ?_
  unfold kd
  have : (x.fmod 4).toNat = 0 ∨ (x.fmod 4).toNat = 1 ∨ (x.fmod 4).toNat = 2 ∨ (x.fmod 4).toNat = 3 := by omega
  rcases this with h | h | h | h <;> rw [h] <;> rfl
theorem EvE.sConst {x : String} {k : Nat} {pos : Pos} {l : List Nat} (h : Str.ofString x = S l) : EvE prog w h₁ n sc σ (.Constant (.str (Str.ofString x)) k pos) (tx l) := EvE.cast EvE.const_str (by rw [h]; rfl)

theorem EvE.numAt {value : Expr} {ns : List Int} {j : Int} {i k : Nat} {p pos : Pos} (hv : EvE prog w h₁ n sc σ value (iL ns)) (hj : j = (i : Int)) (hlt : i < ns.length) (hz : i ≤ 100 := by omega) : EvE prog w h₁ n sc σ (.Subscript value (.Constant (.int j) k p) pos) (.int (ns.getD i 0)) := by
  subst hj
  refine EvE.sub' (fun _ _ => rfl) hv EvE.const_int (GetE.I (by omega) ?_ ?_)
  · omega
  · rw [Int.toNat_natCast, List.getElem?_eq_getElem hlt, List.getD_eq_getElem?_getD, List.getElem?_eq_getElem hlt]; rfl

noncomputable abbrev sR (ns : List Int) (kk row size rest out place left other : D) : List (Str × D) :=
  [(Str.ofString "numbers", iL ns), (Str.ofString "kinds", kk), (Str.ofString "row", row), (Str.ofString "size", size), (Str.ofString "rest", rest), (Str.ofString "out", out), (Str.ofString "place", place), (Str.ofString "left", left), (Str.ofString "other", other)]

theorem rows_calls (B : Bs h₁ mg mb) (hlen : Glob mg mb (Str.ofString "len") (.builtin "len")) {a : Addr} (hf : FnAt h₁ mg 7 a) (ns : List Int) (h4 : 4 ≤ ns.length) (h6 : ns.length ≤ 6) :
    CallE prog w h₁ (n + 1) (.ref a) [iL ns] (.tuple [tL (rowOf ns), tL (otherOf ns)]) := by
  obtain ⟨o, pm, cd, doc, ho, hd, hcd⟩ := hf.obj
  refine CallE.fn B (xs := [Str.ofString "numbers"]) (σ₀ := sR ns .unset .unset .unset .unset .unset .unset .unset .unset) ho hd hcd (fun vs hv => ?_) rfl (by decide +kernel) (by decide +kernel) (by simp) (by show List.Nodup [Str.ofString "numbers", Str.ofString "kinds", Str.ofString "row", Str.ofString "size", Str.ofString "rest", Str.ofString "out", Str.ofString "place", Str.ofString "left", Str.ofString "other"]; decide +kernel) (by intro x xs h; simp [iL] at h) ?_
  · obtain ⟨v, rfl⟩ := list_one vs hv
    rfl
  conv => arg 7; whnf
  refine ExL.asg (d := kindsD) (fun _ => rfl) (by decide +kernel) ?v (by walk_at "m set") ?_
  case v =>
    refine EvE.tuple' (EvL.cons' (EvE.sConst (by decide +kernel)) (EvL.cons' (EvE.sConst (by decide +kernel)) (EvL.cons' (EvE.sConst (by decide +kernel)) (EvL.cons' (EvE.sConst (by decide +kernel)) EvL.nil (fun _ => rfl)) (fun _ => rfl)) (fun _ => rfl)) (fun _ => rfl)) (by simp)
  have hrl : (rowOf ns).length = ns.length := by simp [rowOf]
  refine ExL.cons (ExS.assign_comp (σc := [(Str.ofString "x", .unset), (Str.ofString "kinds", kindsD)]) (d := iL ns) (ds := ns.map .int) (out := (ns.map D.int).flatMap (fun d => match d with | .int i => [tx (kd i)] | _ => [])) (σ' := sR ns kindsD (tL (rowOf ns)) .unset .unset .unset .unset .unset .unset) ?it IterE.list ?caps (LoopE.one ?no ?item) ?len ?set ?no2 (by decide +kernel) (by intro env h; cases env; cases h; rfl)) ?_
  case it => walk_at "m ev"
  case caps =>
    refine caps_of (σt := [(Str.ofString "x", .unset)]) (σk := [(Str.ofString "kinds", kindsD)]) (fr := [Str.ofString "kinds"]) (by decide +kernel) ?_ (by simp) ?_ (by show List.Nodup [Str.ofString "x", Str.ofString "kinds"]; decide +kernel) (by decide +kernel)
    · exact List.forall_mem_cons.mpr ⟨⟨by decide +kernel, _, .there .here, rfl⟩, List.forall_mem_nil _⟩
    · exact List.forall_mem_cons.mpr ⟨⟨.there .here, rfl, by dsimp only; decide +kernel⟩, List.forall_mem_nil _⟩
  case no => intro x xs h; simp at h
  case item =>
    intro d hd
    obtain ⟨i, hi, rfl⟩ := List.mem_map.mp hd
    refine ⟨[(Str.ofString "x", .int i), (Str.ofString "kinds", kindsD)], AsgE.name Set1.here (by decide +kernel), .drop (.same .nil), by intro x xs h; simp at h, .inl ⟨rfl, _, ?_, rfl⟩⟩
    refine EvE.sub' (fun _ _ => rfl) (d₁ := kindsD) (d₂ := .int (i.fmod 4)) (by walk_at "m ev") ?_ GetE.kinds
    exact EvE.binop (by walk_at "m ev") EvE.const_int (OpE.mod_int (by decide))
  case len => rw [List.flatMap_map, flatMap_one]; simp; omega
  case set =>
    rw [List.flatMap_map, flatMap_one, show (ns.map fun x => tx (kd x)) = (rowOf ns).map tx by simp [rowOf, Function.comp_def], tL_eq]
    exact .there (.there .here)
  case no2 => intro x xs h; simp [iL, tL] at h
  have hsz : 1 ≤ sizeOf' ns ∧ sizeOf' ns ≤ 2 := by
    have := fmod_range ((ns.getD 0 0).fdiv 4) 2 (by decide)
    unfold sizeOf'; omega
  refine ExL.asg (d := .int (sizeOf' ns : Int)) (fun _ => rfl) (by decide +kernel) ?v (by walk_at "m set") ?_
  case v =>
    refine EvE.cast (d := .int (1 + ((ns.getD 0 0).fdiv 4).fmod 2)) ?_ (by
      have := fmod_range ((ns.getD 0 0).fdiv 4) 2 (by decide)
      congr 1; unfold sizeOf'; omega)
    refine EvE.binop EvE.const_int (EvE.binop (EvE.binop (EvE.numAt (i := 0) (by walk_at "m ev") rfl (by omega)) EvE.const_int (OpE.div_int (by decide) (by decide))) EvE.const_int (OpE.mod_int (by decide))) OpE.add_int
  have hrest : (ns.length - sizeOf' ns + 1 : Nat) ≠ 0 := Nat.succ_ne_zero _
  refine ExL.asg (d := .int ((ns.length - sizeOf' ns + 1 : Nat) : Int)) (fun _ => rfl) (by decide +kernel) ?v (by walk_at "m set") ?_
  case v =>
    refine EvE.cast (d := .int (((rowOf ns).length : Int) - (sizeOf' ns : Int) + 1)) ?_ (by congr 1; omega)
    repeat' walk_at "m ev"
    all_goals omega
  have hout := fmod_range ((ns.getD 0 0).fdiv 8) ((ns.length - sizeOf' ns + 1 : Nat) : Int) (by omega)
  have hplace := fmod_range ((ns.getD 1 0).fdiv 4) ((ns.length - sizeOf' ns + 1 : Nat) : Int) (by omega)
  refine ExL.asg2 (d₁ := .int ((((ns.getD 0 0).fdiv 8).fmod ((ns.length - sizeOf' ns + 1 : Nat) : Int)).toNat : Int)) (d₂ := .int ((((ns.getD 1 0).fdiv 4).fmod ((ns.length - sizeOf' ns + 1 : Nat) : Int)).toNat : Int)) (fun _ => rfl) (by intro env h; cases env; cases h; rfl) (by decide +kernel) (by decide +kernel) ?v (by walk_at "m set") (by walk_at "m set") ?_
  case v =>
    rw [Int.toNat_of_nonneg hout.1, Int.toNat_of_nonneg hplace.1]
    refine EvE.tuple' (EvL.cons' ?_ (EvL.cons' ?_ EvL.nil (fun _ => rfl)) (fun _ => rfl)) (by simp)
    · exact EvE.binop (EvE.binop (EvE.numAt (i := 0) (by walk_at "m ev") rfl (by omega)) EvE.const_int (OpE.div_int (by decide) (by decide))) (by walk_at "m ev") (OpE.mod_int (by omega))
    · exact EvE.binop (EvE.binop (EvE.numAt (i := 1) (by walk_at "m ev") rfl (by omega)) EvE.const_int (OpE.div_int (by decide) (by decide))) (by walk_at "m ev") (OpE.mod_int (by omega))
  unfold otherOf
  dsimp only
  generalize (((ns.getD 0 0).fdiv 8).fmod ((ns.length - sizeOf' ns + 1 : Nat) : Int)).toNat = out
  generalize (((ns.getD 1 0).fdiv 4).fmod ((ns.length - sizeOf' ns + 1 : Nat) : Int)).toNat = place
  have hleft : (leftAt ns out).length ≤ 12 := by
    rw [leftAt, List.length_append, List.length_take, List.length_drop]; omega
  refine ExL.asg (d := tL (leftAt ns out)) (fun _ => rfl) (by decide +kernel) ?v (by walk_at "m set") ?_
  case v =>
    refine EvE.cast (d := tL (cut (rowOf ns) none (some (out : Int)) ++ cut (rowOf ns) (some ((out : Int) + (sizeOf' ns : Int))) none)) ?_ (by rw [leftAt, cut_upto, show (out : Int) + (sizeOf' ns : Int) = ((out + sizeOf' ns : Nat) : Int) by omega, cut_from])
    have c1 := cut_length (rowOf ns) none (some (out : Int))
    have c2 := cut_length (rowOf ns) (some ((out : Int) + (sizeOf' ns : Int))) none
    repeat' walk_at "m ev"
    all_goals omega
  generalize leftAt ns out = left at hleft ⊢
  have hcutl : (cut ns (some 2) (some (2 + (sizeOf' ns : Int)))).length ≤ 6 := Nat.le_trans (cut_length ns _ _) h6
  have hcuts : cut ns (some 2) (some (2 + (sizeOf' ns : Int))) = (ns.take (2 + sizeOf' ns)).drop 2 := by
    rw [show (2 : Int) + (sizeOf' ns : Int) = ((2 + sizeOf' ns : Nat) : Int) by omega]; exact cut_both ns 2 _
  have hput : (putAt ns left place).length ≤ 30 := by
    rw [putAt, ← hcuts, List.length_append, List.length_append, List.length_map, List.length_take, List.length_drop]; omega
  refine ExL.asg (d := tL (putAt ns left place)) (fun _ => rfl) (by decide +kernel) ?v (by walk_at "m set") ?_
  case v =>
    refine EvE.cast (d := tL (cut left none (some (place : Int)) ++ (cut ns (some 2) (some (2 + (sizeOf' ns : Int)))).map (fun x => kd (x.fdiv 8)) ++ cut left (some (place : Int)) none)) ?_ (by rw [putAt, cut_upto, cut_from, hcuts])
    have c1 := cut_length left none (some (place : Int))
    have c2 := cut_length left (some (place : Int)) none
    refine EvE.binop (EvE.binop (EvE.cutT (by walk_at "m ev") EvP.none (EvP.some (by walk_at "m ev")) (by omega)) ?comp (OpE.add_T (by rw [List.length_map]; omega))) (EvE.cutT (by walk_at "m ev") (EvP.some (by walk_at "m ev")) EvP.none (by omega)) (OpE.add_T (by rw [List.length_append, List.length_map]; omega))
    case comp =>
      refine EvE.compT (σc := [(Str.ofString "x", .unset), (Str.ofString "kinds", kindsD)]) (d := iL (cut ns (some 2) (some (2 + (sizeOf' ns : Int))))) (ds := (cut ns (some 2) (some (2 + (sizeOf' ns : Int)))).map .int)
        (out := ((cut ns (some 2) (some (2 + (sizeOf' ns : Int)))).map D.int).flatMap (fun d => match d with | .int i => [tx (kd (i.fdiv 8))] | _ => [])) (by intro _ _; rfl) ?it IterE.list ?caps (LoopE.one ?no ?item) ?len ?oeq
      case it =>
        repeat' walk_at "m ev"
        all_goals omega
      case caps =>
        refine caps_of (σt := [(Str.ofString "x", .unset)]) (σk := [(Str.ofString "kinds", kindsD)]) (fr := [Str.ofString "kinds"]) (by decide +kernel) ?_ (by simp) ?_ (by show List.Nodup [Str.ofString "x", Str.ofString "kinds"]; decide +kernel) (by decide +kernel)
        · exact List.forall_mem_cons.mpr ⟨⟨by decide +kernel, _, .there .here, rfl⟩, List.forall_mem_nil _⟩
        · exact List.forall_mem_cons.mpr ⟨⟨.there .here, rfl, by dsimp only; decide +kernel⟩, List.forall_mem_nil _⟩
      case no => intro x xs h; simp at h
      case item =>
        intro d hd
        obtain ⟨i, hi, rfl⟩ := List.mem_map.mp hd
        refine ⟨[(Str.ofString "x", .int i), (Str.ofString "kinds", kindsD)], AsgE.name Set1.here (by decide +kernel), .drop (.same .nil), by intro x xs h; simp at h, .inl ⟨rfl, _, ?_, rfl⟩⟩
        refine EvE.sub' (fun _ _ => rfl) (d₁ := kindsD) (d₂ := .int ((i.fdiv 8).fmod 4)) (by walk_at "m ev") ?_ GetE.kinds
        exact EvE.binop (EvE.binop (by walk_at "m ev") EvE.const_int (OpE.div_int (by decide) (by decide))) EvE.const_int (OpE.mod_int (by decide))
      case len => rw [List.flatMap_map, flatMap_one, List.length_map]; omega
      case oeq => rw [List.flatMap_map, flatMap_one, List.map_map]; rfl
  generalize putAt ns left place = other at hput ⊢
  have hne : ns ≠ [] := by intro q; rw [q] at h4; simp at h4
  have hlast : (ns.getD (ns.length - 1) 0) = ns.getD (ns.length - 1) 0 := rfl
  refine ExL.iff (c := decide (other = rowOf ns)) (σ' := sR ns kindsD (tL (rowOf ns)) (.int (sizeOf' ns : Int)) (.int ((ns.length - sizeOf' ns + 1 : Nat) : Int)) (.int (out : Int)) (.int (place : Int)) (tL left) (tL (if other = rowOf ns then (rowOf ns).dropLast ++ [kd (ns.getD (ns.length - 1) 0 + 1)] else other))) ?tst (fun h => ?yes) (fun h => ?no) ?_
  case tst => repeat' walk_at "m ev"
  case no =>
    rw [if_neg (of_decide_eq_false h)]
    exact ExL.nil
  case yes =>
    rw [if_pos (of_decide_eq_true h)]
    refine ExL.asg (d := tL ((rowOf ns).dropLast ++ [kd (ns.getD (ns.length - 1) 0 + 1)])) (fun _ => rfl) (by decide +kernel) ?v (by walk_at "m set") ExL.nil
    case v =>
      refine EvE.cast (d := tL (cut (rowOf ns) none (some (-1)) ++ [kd (ns.getD (ns.length - 1) 0 + 1)])) ?_ (by rw [show cut (rowOf ns) none (some (-1)) = cut (rowOf ns) none (some (-((1 : Nat) : Int))) from rfl, cut_butLast _ 1 (Nat.le_refl _), ← List.dropLast_eq_take])
      have c1 := cut_length (rowOf ns) none (some (-1))
      refine EvE.binop (EvE.cutT (by walk_at "m ev") EvP.none (EvP.some (EvE.neg EvE.const_int)) (by omega)) (EvE.disp1 ?_ (by intro _; rfl)) (OpE.add_T (by simp; omega))
      refine EvE.sub' (fun _ _ => rfl) (d₁ := kindsD) (d₂ := .int ((ns.getD (ns.length - 1) 0 + 1).fmod 4)) (by walk_at "m ev") ?_ GetE.kinds
      refine EvE.binop (EvE.binop ?_ EvE.const_int OpE.add_int) EvE.const_int (OpE.mod_int (by decide))
      refine EvE.sub' (fun _ _ => rfl) (d₁ := iL ns) (d₂ := .int (-1)) (by walk_at "m ev") (EvE.neg EvE.const_int) (GetE.Ineg (by decide) (by omega) (by decide) ?_)
      rw [show ((-1 : Int) + (ns.length : Int)).toNat = ns.length - 1 by omega, List.getD_eq_getElem?_getD, List.getElem?_eq_getElem (show ns.length - 1 < ns.length by omega)]; rfl
  refine ExL.ret (ExS.return_ (EvE.tuple' ?_ (by simp)))
  repeat' walk_at "m ev"
end
end Mine
end

-- part MPlain
section

open PySem PySem.W PyProof.Rows
set_option linter.unusedVariables false
set_option maxRecDepth 100000
namespace Mine

/-- a row of signs -/
noncomputable def SgL (r : List (List Nat)) : Prop := ∀ x ∈ r, Sg x
theorem SgL.cons {x : List Nat} {r : List (List Nat)} : SgL (x :: r) ↔ Sg x ∧ SgL r := by simp [SgL]
theorem SgL.append {a b : List (List Nat)} : SgL (a ++ b) ↔ SgL a ∧ SgL b := by
  unfold SgL
  constructor
  · intro h; exact ⟨fun x hx => h x (List.mem_append_left _ hx), fun x hx => h x (List.mem_append_right _ hx)⟩
  · rintro ⟨h1, h2⟩ x hx
    rcases List.mem_append.mp hx with h | h
    · exact h1 x h
    · exact h2 x h
theorem SgL.take {a : List (List Nat)} (h : SgL a) (k : Nat) : SgL (a.take k) := fun x hx => h x (List.mem_of_mem_take hx)
theorem SgL.drop {a : List (List Nat)} (h : SgL a) (k : Nat) : SgL (a.drop k) := fun x hx => h x (List.mem_of_mem_drop hx)

/-- signs tell each other apart from the left -/
theorem sg_head {x y : List Nat} (hx : Sg x) (hy : Sg y) {a b : List Nat} (h : x ++ a = y ++ b) : x = y := by
  rcases hx with rfl | rfl | rfl | rfl <;> rcases hy with rfl | rfl | rfl | rfl <;> simp at h <;> simp_all
theorem sg_pre {x : List Nat} (hx : Sg x) : ∀ {r : List (List Nat)}, SgL r → (x <+: r.flatten ↔ r.head? = some x)
  | [], _ => by
    have := hx.pos
    simp
    intro q; rw [q] at this; simp at this
  | y :: r, hr => by
    rw [SgL.cons] at hr
    simp only [List.flatten_cons, List.head?_cons, Option.some.injEq]
    constructor
    · rintro ⟨t, ht⟩
      exact (sg_head hx hr.1 ht).symm
    · rintro rfl; exact List.prefix_append _ _
theorem pre_iff : ∀ {p t : List (List Nat)}, SgL p → SgL t → (p.flatten <+: t.flatten ↔ p <+: t)
  | [], t, _, _ => by simp
  | x :: p, [], hp, _ => by
    rw [SgL.cons] at hp
    have := hp.1.pos
    simp
    intro q; rw [q] at this; simp at this
  | x :: p, y :: t, hp, ht => by
    rw [SgL.cons] at hp ht
    simp only [List.flatten_cons, List.cons_prefix_cons]
    constructor
    · intro h
      obtain ⟨s, hs⟩ := h
      have e := sg_head hp.1 ht.1 (a := p.flatten ++ s) (b := t.flatten) (by rw [← List.append_assoc]; exact hs)
      subst e
      refine ⟨rfl, (pre_iff hp.2 ht.2).mp ⟨s, ?_⟩⟩
      rw [List.append_assoc] at hs
      exact List.append_cancel_left hs
    · rintro ⟨rfl, h⟩
      obtain ⟨s, hs⟩ := (pre_iff hp.2 ht.2).mpr h
      exact ⟨s, by rw [List.append_assoc, hs]⟩
theorem flat_inj {p t : List (List Nat)} (hp : SgL p) (ht : SgL t) (h : p.flatten = t.flatten) : p = t := by
  have h1 := (pre_iff hp ht).mp (h ▸ List.prefix_refl _)
  have h2 := (pre_iff ht hp).mp (h ▸ List.prefix_refl _)
  exact h1.eq_of_length (Nat.le_antisymm h1.length_le h2.length_le)
/-- and from the right -/
theorem sg_last {x y : List Nat} (hx : Sg x) (hy : Sg y) {a b : List Nat} (h : a ++ x = b ++ y) : x = y := by
  have h' := congrArg List.reverse h
  rw [List.reverse_append, List.reverse_append] at h'
  rcases hx with rfl | rfl | rfl | rfl <;> rcases hy with rfl | rfl | rfl | rfl <;> simp at h' <;> simp_all
theorem suf_aux : ∀ (n : Nat) {q t : List (List Nat)}, q.length = n → SgL q → SgL t → q.flatten <:+ t.flatten → q <:+ t
  | 0, q, t, hn, _, _, _ => by
    have := List.length_eq_zero_iff.mp hn
    subst this; exact List.nil_suffix
  | n + 1, q, t, hn, hq, ht, h => by
    have hqne : q ≠ [] := by intro e; rw [e] at hn; simp at hn
    obtain ⟨q', x, rfl⟩ : ∃ q' x, q = q' ++ [x] := ⟨q.dropLast, q.getLast hqne, (List.dropLast_concat_getLast hqne).symm⟩
    rw [SgL.append] at hq
    have hx : Sg x := hq.2 x (List.mem_singleton.mpr rfl)
    by_cases htne : t = []
    · subst htne
      have h1 := h.length_le
      have h2 := hx.pos
      simp only [List.flatten_append, List.flatten_cons, List.flatten_nil, List.length_append, List.length_nil] at h1
      omega
    · obtain ⟨t', y, rfl⟩ : ∃ t' y, t = t' ++ [y] := ⟨t.dropLast, t.getLast htne, (List.dropLast_concat_getLast htne).symm⟩
      rw [SgL.append] at ht
      have hy : Sg y := ht.2 y (List.mem_singleton.mpr rfl)
      obtain ⟨s, hs⟩ := h
      simp only [List.flatten_append, List.flatten_cons, List.flatten_nil, List.append_nil] at hs
      have e := sg_last hx hy (a := s ++ q'.flatten) (b := t'.flatten) (by rw [List.append_assoc]; exact hs)
      subst e
      rw [← List.append_assoc] at hs
      have hs := List.append_cancel_right hs
      obtain ⟨u, hu⟩ := suf_aux n (q := q') (t := t') (by simpa using hn) hq.1 ht.1 ⟨s, hs⟩
      exact ⟨u, by rw [← List.append_assoc, hu]⟩
theorem suf_iff {q t : List (List Nat)} (hq : SgL q) (ht : SgL t) : q.flatten <:+ t.flatten ↔ q <:+ t := by
  refine ⟨suf_aux _ rfl hq ht, ?_⟩
  rintro ⟨u, rfl⟩
  exact ⟨u.flatten, by simp⟩
theorem find_none {x y : List Nat} {lo hi : Nat} : findF x y lo hi = none ↔ ∀ i, lo ≤ i → ¬ AtL x y hi i := by
  constructor
  · intro h i hl ha
    have := findF_some ha hl
    rw [h] at this; cases this
  · intro h
    unfold findF
    rw [List.find?_eq_none]
    intro i hi'
    simpa using h i (List.mem_range'_1.mp hi').1
theorem find_some {x y : List Nat} {lo hi i : Nat} (ha : AtL x y hi i) (hl : lo ≤ i) (hb : ∀ j, lo ≤ j → j < i → ¬ AtL x y hi j) : findF x y lo hi = some i := by
  unfold findF
  rw [List.find?_range'_eq_some]
  have := ha.1
  refine ⟨decide_eq_true ha, List.mem_range'_1.mpr ⟨hl, by omega⟩, fun j h1 h2 => ?_⟩
  rw [decide_eq_false (hb j h1 h2)]; rfl
theorem find_empty (x : List Nat) {lo hi : Nat} (h : lo ≤ hi) : findF x [] lo hi = some lo :=
  find_some ⟨by simpa using h, by simp⟩ (Nat.le_refl _) fun j h1 h2 => absurd h2 (by omega)

/-- two parts -/
theorem ell_two (P Q G : List Nat) : ellF [P, Q] G = decide (P <+: G ∧ Q <:+ G ∧ P.length + Q.length ≤ G.length) := by
  have e : ellF [P, Q] G = if P = [] then ell2 [P, Q] G 0 else if P <+: G then ell2 [Q] G P.length else false := rfl
  have e2 : ∀ sp, ell2 [P, Q] G sp = if Q = [] then (if G.length < sp then false else runE G G.length sp [P, Q]) else if Q <:+ G then (if G.length - Q.length < sp then false else runE G (G.length - Q.length) sp [P]) else false := fun _ => rfl
  have e1 : ∀ sp, ell2 [Q] G sp = if Q = [] then (if G.length < sp then false else runE G G.length sp [Q]) else if Q <:+ G then (if G.length - Q.length < sp then false else runE G (G.length - Q.length) sp []) else false := fun _ => rfl
  rw [e]
  by_cases hP : P = []
  · subst hP
    rw [if_pos rfl, e2]
    by_cases hQ : Q = []
    · subst hQ
      simp [runE, find_empty]
    · rw [if_neg hQ]
      by_cases hs : Q <:+ G
      · have := hs.length_le
        rw [if_pos hs, if_neg (by omega)]
        simp [runE, find_empty, hs, this]
      · rw [if_neg hs]; simp [hs]
  · rw [if_neg hP]
    by_cases hp : P <+: G
    · have hpl := hp.length_le
      rw [if_pos hp, e1]
      by_cases hQ : Q = []
      · subst hQ
        rw [if_pos rfl, if_neg (by omega)]
        simp [runE, find_empty, hpl, hp]
      · rw [if_neg hQ]
        by_cases hs : Q <:+ G
        · have hsl := hs.length_le
          rw [if_pos hs]
          by_cases hl : G.length - Q.length < P.length
          · rw [if_pos hl]; simp [hp, hs]; omega
          · rw [if_neg hl]; simp [runE, hp, hs]; omega
        · rw [if_neg hs]; simp [hs]
    · rw [if_neg hp]; simp [hp]
/-- two parts of a row, in a row -/
theorem ell_two_sg {p q t : List (List Nat)} (hp : SgL p) (hq : SgL q) (ht : SgL t) : ellF [p.flatten, q.flatten] t.flatten = decide (p <+: t ∧ q <:+ t ∧ p.length + q.length ≤ t.length) := by
  rw [ell_two, decide_eq_decide]
  rw [pre_iff hp ht, suf_iff hq ht]
  refine and_congr_right fun h1 => and_congr_right fun h2 => ?_
  obtain ⟨a, rfl⟩ := h1
  rw [SgL.append] at ht
  simp only [List.flatten_append, List.length_append]
  constructor
  · intro h
    have h3 : q.flatten.length ≤ a.flatten.length := by omega
    have h4 : q.flatten <:+ a.flatten := by
      have := (suf_iff hq (SgL.append.mpr ht)).mpr h2
      rw [List.flatten_append] at this
      exact List.suffix_of_suffix_length_le this (List.suffix_append _ _) h3
    have := ((suf_iff hq ht.2).mp h4).length_le
    omega
  · intro h
    have h3 : q <:+ a := List.suffix_of_suffix_length_le h2 (List.suffix_append _ _) (by omega)
    have := ((suf_iff hq ht.2).mpr h3).length_le
    omega
end Mine
end

-- part MPlain2
section

open PySem PySem.W PyProof.Rows
set_option linter.unusedVariables false
set_option maxRecDepth 100000
namespace Mine

theorem no_here {x w : List Nat} {r : List (List Nat)} (hx : Sg x) (hw : Sg w) (hne : x ≠ w) (hr : SgL r) : ∀ k, k < x.length → ¬ w <+: (x ++ r.flatten).drop k := by
  intro k hk h
  cases k with
  | zero =>
    have := (sg_pre hw (r := x :: r) (SgL.cons.mpr ⟨hx, hr⟩)).mp (by simpa using h)
    simp at this
    exact hne this
  | succ k =>
    have hp := hx.pos
    have hk0 : k = 0 := by omega
    subst hk0
    rcases hx with rfl | rfl | rfl | rfl
    · simp at hk
    · simp at hk
    · rcases hw with rfl | rfl | rfl | rfl <;> simp at h
    · rcases hw with rfl | rfl | rfl | rfl
      · simp at h
      · simp at h
      · cases r with
        | nil => simp at h
        | cons y r =>
          rw [SgL.cons] at hr
          rcases hr.1 with rfl | rfl | rfl | rfl <;> simp at h
      · exact hne rfl
theorem not_in {w : List Nat} (hw : Sg w) : ∀ {u : List (List Nat)}, SgL u → w ∉ u → ∀ k, ¬ w <+: u.flatten.drop k
  | [], _, _, k, h => by
    have := hw.pos
    have := h.length_le
    simp at this
    rw [this] at hw
    have := hw.pos; simp at this
  | x :: r, hu, hn, k, h => by
    rw [SgL.cons] at hu
    simp only [List.mem_cons, not_or] at hn
    rw [List.flatten_cons] at h
    by_cases hk : k < x.length
    · exact no_here hu.1 hw (Ne.symm hn.1) hu.2 k hk h
    · rw [List.drop_append, List.drop_of_length_le (by omega), List.nil_append] at h
      exact not_in hw hu.2 hn.2 _ h
theorem first_in {w : List Nat} (hw : Sg w) {u2 : List (List Nat)} : ∀ {u1 : List (List Nat)}, SgL (u1 ++ w :: u2) → w ∉ u1 → ∀ k, k < u1.flatten.length → ¬ w <+: (u1 ++ w :: u2).flatten.drop k
  | [], _, _, k, hk, _ => by simp at hk
  | x :: r, hu, hn, k, hk, h => by
    rw [List.cons_append, SgL.cons] at hu
    simp only [List.mem_cons, not_or] at hn
    rw [List.cons_append, List.flatten_cons] at h
    by_cases hkx : k < x.length
    · exact no_here hu.1 hw (Ne.symm hn.1) hu.2 k hkx h
    · rw [List.drop_append, List.drop_of_length_le (by omega), List.nil_append] at h
      refine first_in hw hu.2 hn.2 _ ?_ h
      simp only [List.flatten_cons, List.length_append] at hk
      omega
theorem at_mid (A U B w : List Nat) (k : Nat) : AtL (A ++ U ++ B) w (A.length + U.length) (A.length + k) ↔ k + w.length ≤ U.length ∧ w <+: U.drop k := by
  unfold AtL
  have e : k + w.length ≤ U.length → ((A ++ U ++ B).drop (A.length + k)).take w.length = (U.drop k).take w.length := fun h => by
    rw [List.append_assoc, ← List.drop_drop, List.drop_left, List.drop_append_of_le_length (by omega), List.take_append_of_le_length (by rw [List.length_drop]; omega)]
  constructor
  · rintro ⟨h1, h2⟩
    have h1 : k + w.length ≤ U.length := by omega
    rw [e h1] at h2
    exact ⟨h1, List.prefix_iff_eq_take.mpr h2.symm⟩
  · rintro ⟨h1, h2⟩
    refine ⟨by omega, ?_⟩
    rw [e h1]
    exact (List.prefix_iff_eq_take.mp h2).symm

theorem run_sub : ∀ (signs : List (List Nat)), SgL signs → ∀ (A : List Nat) (u : List (List Nat)) (B : List Nat), SgL u → runE (A ++ u.flatten ++ B) (A.length + u.flatten.length) A.length signs = decide (signs.Sublist u)
  | [], _, A, u, B, _ => by simp [runE]
  | w :: r, hs, A, u, B, hu => by
    rw [SgL.cons] at hs
    have hw := hs.1
    have hwp := hw.pos
    by_cases hm : w ∈ u
    · obtain ⟨u1, u2, hn, rfl⟩ := List.append_of_mem_first hm
      have hf : findF (A ++ (u1 ++ w :: u2).flatten ++ B) w A.length (A.length + (u1 ++ w :: u2).flatten.length) = some (A.length + u1.flatten.length) := by
        refine find_some ((at_mid ..).mpr ⟨by simp, ?_⟩) (Nat.le_add_right _ _) fun j h1 h2 => ?_
        · rw [List.flatten_append, List.drop_left]; exact List.prefix_append _ _
        · obtain ⟨k, rfl⟩ := Nat.exists_eq_add_of_le h1
          rw [at_mid]
          rintro ⟨_, h⟩
          exact first_in hw hu hn k (by omega) h
      rw [SgL.append, SgL.cons] at hu
      rw [runE, hf]
      dsimp only
      have ih := run_sub r hs.2 (A ++ u1.flatten ++ w) u2 B hu.2.2
      have e1 : A ++ (u1 ++ w :: u2).flatten ++ B = A ++ u1.flatten ++ w ++ u2.flatten ++ B := by simp
      have e2 : A.length + (u1 ++ w :: u2).flatten.length = (A ++ u1.flatten ++ w).length + u2.flatten.length := by
        rw [List.flatten_append, List.flatten_cons]; simp only [List.length_append]; omega
      have e3 : A.length + u1.flatten.length + w.length = (A ++ u1.flatten ++ w).length := by simp only [List.length_append]
      rw [e1, e2, e3, ih, decide_eq_decide]
      constructor
      · intro h
        exact (h.cons_cons w).trans (List.sublist_append_right _ _)
      · intro h
        obtain ⟨r1, r2, e, h1, h2⟩ := List.cons_sublist_iff.mp h
        -- r2 begins behind the first w
        have : u2 = u2 := rfl
        rcases List.append_eq_append_iff.mp e with ⟨a', ha1, ha2⟩ | ⟨c', hc1, hc2⟩
        · -- r1 = u1 ++ a'
          cases a' with
          | nil =>
            rw [List.append_nil] at ha1
            rw [ha1] at h1; exact absurd h1 hn
          | cons y a' =>
            rw [List.cons_append] at ha2
            injection ha2 with _ ha2
            rw [ha2]
            exact h2.trans (List.sublist_append_right _ _)
        · -- u1 = r1 ++ c'
          rw [hc1] at hn
          exact absurd (List.mem_append_left _ h1) hn
    · have hf : findF (A ++ u.flatten ++ B) w A.length (A.length + u.flatten.length) = none := by
        rw [find_none]
        intro i hi
        obtain ⟨k, rfl⟩ := Nat.exists_eq_add_of_le hi
        rw [at_mid]
        rintro ⟨_, h⟩
        exact not_in hw hu hm k h
      rw [runE, hf]
      dsimp only
      symm
      rw [decide_eq_false_iff_not]
      intro h
      exact hm (h.subset (List.mem_cons_self ..))
where
  List.append_of_mem_first {w : List Nat} : ∀ {u : List (List Nat)}, w ∈ u → ∃ u1 u2, w ∉ u1 ∧ u = u1 ++ w :: u2
    | x :: r, h => by
      by_cases hx : x = w
      · subst hx; exact ⟨[], r, by simp, rfl⟩
      · obtain ⟨u1, u2, h1, h2⟩ := List.append_of_mem_first ((List.mem_cons.mp h).resolve_left (Ne.symm hx))
        exact ⟨x :: u1, u2, by simp [Ne.symm hx, h1], by rw [h2]; rfl⟩

theorem run_end (G : List Nat) (hi : Nat) : ∀ (ws : List (List Nat)) (sp : Nat), sp ≤ hi → runE G hi sp (ws ++ [[]]) = runE G hi sp ws
  | [], sp, h => by simp [runE, find_empty _ h]
  | w :: r, sp, h => by
    rw [List.cons_append, runE, runE]
    cases q : findF G w sp hi with
    | none => rfl
    | some i =>
      dsimp only
      refine run_end G hi r _ ?_
      unfold findF at q
      have := List.find?_some q
      have := (of_decide_eq_true this).1
      exact this

theorem ellF_nil {parts : List (List Nat)} {G : List Nat} (h : parts.headD [] = []) : ellF parts G = ell2 parts G 0 := by
  unfold ellF
  dsimp only
  rw [if_pos h]
theorem ellF_pre {parts : List (List Nat)} {G : List Nat} (h : parts.headD [] ≠ []) : ellF parts G = if parts.headD [] <+: G then ell2 parts.tail G (parts.headD []).length else false := by
  unfold ellF
  dsimp only
  rw [if_neg h]
theorem ell2_nil {ws : List (List Nat)} {G : List Nat} {sp : Nat} (h : ws.getLastD [] = []) (hsp : sp ≤ G.length) : ell2 ws G sp = runE G G.length sp ws := by
  unfold ell2
  dsimp only
  rw [if_pos h, if_neg (by omega)]
theorem ell2_suf {ws : List (List Nat)} {G : List Nat} {sp : Nat} (h : ws.getLastD [] ≠ []) : ell2 ws G sp = if ws.getLastD [] <:+ G then (if G.length - (ws.getLastD []).length < sp then false else runE G (G.length - (ws.getLastD []).length) sp ws.dropLast) else false := by
  unfold ell2
  dsimp only
  rw [if_neg h]

theorem ell_dots0 {signs t : List (List Nat)} (hs : SgL signs) (ht : SgL t) : ellF ([[]] ++ signs ++ [[]]) t.flatten = decide (signs.Sublist t) := by
  rw [ellF_nil (by simp), ell2_nil (by rw [List.getLastD_eq_getLast?, List.getLast?_concat]; rfl) (Nat.zero_le _)]
  rw [show ([[]] ++ signs ++ [[]] : List (List Nat)) = [] :: (signs ++ [[]]) by simp, runE, find_empty _ (Nat.zero_le _)]
  dsimp only
  rw [List.length_nil, Nat.add_zero, run_end _ _ _ _ (Nat.zero_le _)]
  have := run_sub signs hs [] t [] ht
  simpa using this

theorem ell_dots1 {a b c d : List Nat} {m u : List (List Nat)} (hs : SgL (a :: m ++ [b])) (ht : SgL (c :: u ++ [d])) :
    ellF (a :: m ++ [b]) (c :: u ++ [d]).flatten = (decide ((a :: m ++ [b]).Sublist (c :: u ++ [d])) && (decide (a = c) && decide (b = d))) := by
  have hs' := hs
  have ht' := ht
  rw [List.cons_append, SgL.cons, SgL.append, SgL.cons] at hs ht
  obtain ⟨ha, hm, hb, _⟩ := hs
  obtain ⟨hc, hu, hd, _⟩ := ht
  have hap := ha.pos
  have hbp := hb.pos
  have hane : a ≠ [] := by intro q; rw [q] at hap; simp at hap
  have hbne : b ≠ [] := by intro q; rw [q] at hbp; simp at hbp
  have e1 : (a :: m ++ [b]).headD [] = a := rfl
  rw [ellF_pre (by rw [e1]; exact hane), e1]
  have hpre : a <+: (c :: u ++ [d]).flatten ↔ a = c := by
    rw [sg_pre ha ht']
    simp
    exact eq_comm
  by_cases hac : a = c
  · subst hac
    rw [if_pos (hpre.mpr rfl)]
    have e2 : ((a :: m ++ [b]).tail).getLastD [] = b := by rw [List.getLastD_eq_getLast?]; simp
    rw [ell2_suf (by rw [e2]; exact hbne), e2]
    have hsuf : b <:+ (a :: u ++ [d]).flatten ↔ b = d := by
      constructor
      · rintro ⟨s, h⟩
        rw [List.flatten_append] at h
        simp only [List.flatten_cons, List.flatten_nil, List.append_nil] at h
        exact sg_last hb hd h
      · rintro rfl
        exact ⟨a ++ u.flatten, by simp⟩
    by_cases hbd : b = d
    · subst hbd
      rw [if_pos (hsuf.mpr rfl)]
      have e3 : (a :: u ++ [b]).flatten = a ++ u.flatten ++ b := by simp
      have e4 : (a :: m ++ [b]).tail.dropLast = m := by simp
      rw [e3, e4, show (a ++ u.flatten ++ b).length - b.length = a.length + u.flatten.length by simp only [List.length_append]; omega, if_neg (by omega), run_sub m hm a u b hu]
      simp
    · rw [if_neg (fun h => hbd (hsuf.mp h))]
      simp [hbd]
  · rw [if_neg (fun h => hac (hpre.mp h))]
    simp [hac]

/-- where tokens of a row stand -/
noncomputable def places : Nat → List (List Nat) → List (Nat × List Nat)
  | _, [] => []
  | i, x :: r => (i + x.length - 1, x) :: places (i + x.length) r
theorem esc_row : ∀ (toks : List (List Nat)) (i : Nat), (∀ x ∈ toks, Sg x ∨ x = [34]) → esc i false toks.flatten = places i toks
  | [], i, _ => by simp [esc, places]
  | x :: r, i, h => by
    have ih := fun j => esc_row r j fun y hy => h y (List.mem_cons_of_mem _ hy)
    have h1 : ∀ c, c ≠ 92 → esc i false ([c] ++ r.flatten) = (i, [c]) :: esc (i + 1) false r.flatten := fun c hc => by
      show esc i false (c :: r.flatten) = _
      rw [esc, if_neg hc]
    have h2 : ∀ c, esc i false ([92, c] ++ r.flatten) = (i + 1, [92, c]) :: esc (i + 1 + 1) false r.flatten := fun c => by
      show esc i false (92 :: c :: r.flatten) = _
      rw [esc, if_pos rfl, esc]; rfl
    rw [List.flatten_cons, places]
    rcases h x (List.mem_cons_self ..) with (rfl | rfl | rfl | rfl) | rfl
    · rw [h1 _ (by decide), ih]; rfl
    · rw [h1 _ (by decide), ih]; rfl
    · rw [h2, ih]; rfl
    · rw [h2, ih]; rfl
    · rw [h1 _ (by decide), ih]; rfl
theorem places_append : ∀ (a b : List (List Nat)) (i : Nat), places i (a ++ b) = places i a ++ places (i + a.flatten.length) b
  | [], b, i => by simp [places]
  | x :: a, b, i => by
    rw [List.cons_append, places, places, places_append a b, List.flatten_cons, List.length_append, Nat.add_assoc]; rfl
theorem fold_sg (l : List Nat) : ∀ (a : List (List Nat)) (i : Nat) (st : SSt), SgL a → (places i a).foldl (sStep l) st = st
  | [], _, _, _ => rfl
  | x :: a, i, st, h => by
    rw [SgL.cons] at h
    rw [places, List.foldl_cons]
    have hx : x ≠ [34] := by rcases h.1 with rfl | rfl | rfl | rfl <;> simp
    rw [sStep, if_neg hx]
    exact fold_sg l a _ st h.2

/-- a pair of quotation marks with signs before and between -/
theorem fold_pair {l : List Nat} {a b : List (List Nat)} {c : List Nat} {i : Nat} {res : List (List Nat)} (ha : SgL a) (hb : SgL b) (hl : l.drop i = (a ++ [[34]] ++ b ++ [[34]]).flatten ++ c) :
    ∃ res', (places i (a ++ [[34]] ++ b ++ [[34]])).foldl (sStep l) ⟨i, none, res⟩ = ⟨i + (a ++ [[34]] ++ b ++ [[34]]).flatten.length, none, res'⟩ ∧ res'.flatten = res.flatten ++ a.flatten := by
  rw [places_append, places_append, places_append]
  rw [List.foldl_append, List.foldl_append, List.foldl_append, fold_sg l a _ _ ha]
  simp only [places, List.foldl_cons, List.foldl_nil, List.length_cons, List.length_nil]
  rw [show sStep l ⟨i, none, res⟩ (i + a.flatten.length + (0 + 1) - 1, [34]) = ⟨i, some (i + a.flatten.length), res⟩ by rw [sStep, if_pos rfl]; rfl]
  rw [fold_sg l b _ _ hb]
  refine ⟨if i ≠ i + a.flatten.length then res ++ [(l.drop i).take (i + a.flatten.length - i)] else res, ?_, ?_⟩
  · rw [sStep, if_pos rfl]
    simp only [SSt.mk.injEq, and_true]
    simp only [List.flatten_append, List.length_append, List.flatten_cons, List.flatten_nil, List.length_cons, List.length_nil, List.append_nil]
    omega
  · split
    · rw [List.flatten_append, hl, show i + a.flatten.length - i = a.flatten.length by omega]
      simp
    · rename_i h
      have : a.flatten = [] := by
        have : a.flatten.length = 0 := by
          by_cases q : a.flatten.length = 0
          · exact q
          · exact absurd (show i ≠ i + a.flatten.length by omega) h
        exact List.length_eq_zero_iff.mp this
      rw [this, List.append_nil]
end Mine
end

-- part MPlain3
section

open PySem PySem.W PyProof.Rows
set_option linter.unusedVariables false
set_option maxRecDepth 100000
namespace Mine

noncomputable def qt (a b : List (List Nat)) : List (List Nat) := a ++ [[34]] ++ b ++ [[34]]
theorem fold_qt {l : List Nat} {a b : List (List Nat)} {c : List Nat} {i : Nat} {res : List (List Nat)} (ha : SgL a) (hb : SgL b) (hl : l.drop i = (qt a b).flatten ++ c) :
    ∃ res', (places i (qt a b)).foldl (sStep l) ⟨i, none, res⟩ = ⟨i + (qt a b).flatten.length, none, res'⟩ ∧ res'.flatten = res.flatten ++ a.flatten := fold_pair ha hb hl
theorem qt_mem (a b c : List (List Nat)) : 34 ∈ (qt a b ++ c).flatten := List.mem_flatten.mpr ⟨[34], by simp [qt], by simp⟩
theorem qt_tok {a b : List (List Nat)} (ha : SgL a) (hb : SgL b) : ∀ x ∈ qt a b, Sg x ∨ x = [34] := by
  intro x hx
  simp only [qt, List.mem_append, List.mem_singleton] at hx
  rcases hx with ((hx | hx) | hx) | hx
  · exact .inl (ha x hx)
  · exact .inr hx
  · exact .inl (hb x hx)
  · exact .inr hx
theorem strip_end {l : List Nat} {k : Nat} {res : List (List Nat)} {c : List (List Nat)} (hc : SgL c) (hl : l.drop k = c.flatten) (hk : k ≤ l.length) :
    ((((places k c).foldl (sStep l) ⟨k, none, res⟩).res) ++ if ((places k c).foldl (sStep l) ⟨k, none, res⟩).start < l.length then [l.drop ((places k c).foldl (sStep l) ⟨k, none, res⟩).start] else []).flatten = res.flatten ++ c.flatten := by
  rw [fold_sg l c k _ hc]
  dsimp only
  split
  · rw [List.flatten_append, hl]; simp
  · have : c.flatten = [] := by rw [← hl]; exact List.drop_of_length_le (by omega)
    rw [this]; simp
theorem strip1 {a b c : List (List Nat)} (ha : SgL a) (hb : SgL b) (hc : SgL c) : stripF ((a ++ [[34]] ++ b ++ [[34]] ++ c).flatten) = (a ++ c).flatten := by
  have hm : 34 ∈ (qt a b ++ c).flatten := qt_mem _ _ _
  show stripF ((qt a b ++ c).flatten) = _
  unfold stripF
  rw [if_pos hm]
  dsimp only
  unfold sAll
  have hesc : esc 0 false (qt a b ++ c).flatten = places 0 (qt a b ++ c) := esc_row _ _ fun x hx => by
    rcases List.mem_append.mp hx with h | h
    · exact qt_tok ha hb x h
    · exact .inl (hc x h)
  rw [hesc, places_append, List.foldl_append]
  obtain ⟨res, h1, h2⟩ := fold_qt (l := (qt a b ++ c).flatten) (i := 0) (res := []) (c := c.flatten) ha hb (by rw [List.drop_zero, List.flatten_append])
  rw [h1]
  rw [strip_end hc (by rw [List.flatten_append, Nat.zero_add, List.drop_left]) (by rw [List.flatten_append, List.length_append]; omega), h2]
  simp
theorem strip2 {a b c d e : List (List Nat)} (ha : SgL a) (hb : SgL b) (hc : SgL c) (hd : SgL d) (he : SgL e) :
    stripF ((a ++ [[34]] ++ b ++ [[34]] ++ c ++ [[34]] ++ d ++ [[34]] ++ e).flatten) = (a ++ c ++ e).flatten := by
  have e0 : a ++ [[34]] ++ b ++ [[34]] ++ c ++ [[34]] ++ d ++ [[34]] ++ e = qt a b ++ (qt c d ++ e) := by simp [qt]
  rw [e0]
  have hm : 34 ∈ (qt a b ++ (qt c d ++ e)).flatten := qt_mem _ _ _
  unfold stripF
  rw [if_pos hm]
  dsimp only
  unfold sAll
  have hesc : esc 0 false (qt a b ++ (qt c d ++ e)).flatten = places 0 (qt a b ++ (qt c d ++ e)) := esc_row _ _ fun x hx => by
    rcases List.mem_append.mp hx with h | h
    · exact qt_tok ha hb x h
    · rcases List.mem_append.mp h with h | h
      · exact qt_tok hc hd x h
      · exact .inl (he x h)
  rw [hesc, places_append, places_append, List.foldl_append, List.foldl_append]
  obtain ⟨res, h1, h2⟩ := fold_qt (l := (qt a b ++ (qt c d ++ e)).flatten) (i := 0) (res := []) (c := (qt c d ++ e).flatten) ha hb (by rw [List.drop_zero, List.flatten_append])
  rw [h1]
  obtain ⟨res2, h3, h4⟩ := fold_qt (l := (qt a b ++ (qt c d ++ e)).flatten) (i := 0 + (qt a b).flatten.length) (res := res) (c := e.flatten) hc hd (by rw [List.flatten_append, Nat.zero_add, List.drop_left, List.flatten_append])
  rw [h3]
  rw [strip_end he (by rw [Nat.zero_add, ← List.drop_drop, List.flatten_append, List.drop_left, List.flatten_append, List.drop_left]) (by rw [List.flatten_append, List.flatten_append, List.length_append, List.length_append]; omega), h4, h2]
  simp

/-- signs taken out, signs put in -/
noncomputable def del {α : Type} (r : List α) (k s : Nat) : List α := r.take k ++ r.drop (k + s)
noncomputable def ins {α : Type} (r : List α) (k : Nat) (x : List α) : List α := r.take k ++ x ++ r.drop k
theorem hide_sg {r : List (List Nat)} (hr : SgL r) (k s : Nat) : hideF r k s = (del r k s).flatten :=
  strip1 (hr.take k) ((hr.take _).drop k) (hr.drop _)
theorem SgL.del {r : List (List Nat)} (hr : SgL r) (k s : Nat) : SgL (Mine.del r k s) := SgL.append.mpr ⟨hr.take k, hr.drop _⟩
theorem SgL.ins {r x : List (List Nat)} (hr : SgL r) (hx : SgL x) (k : Nat) : SgL (Mine.ins r k x) := SgL.append.mpr ⟨SgL.append.mpr ⟨hr.take k, hx⟩, hr.drop _⟩

section
variable {α : Type}
theorem tl_len {a : List α} {k : Nat} (h : k ≤ a.length) : (a.take k).length = k := List.length_take_of_le h
theorem tdl_len {a : List α} {f s : Nat} (h : f + s ≤ a.length) : ((a.drop f).take s).length = s := List.length_take_of_le (by rw [List.length_drop]; exact Nat.le_sub_of_add_le (by rw [Nat.add_comm]; exact h))
theorem tdd_len {a : List α} {m s : Nat} (h : m + s ≤ a.length) : ((a.take (m + s)).drop m).length = s := by rw [List.length_drop, List.length_take_of_le h, Nat.add_sub_cancel_left]
theorem del_len (r : List α) (k s : Nat) (h : k + s ≤ r.length) : (del r k s).length = r.length - s := by
  rw [del, List.length_append, tl_len (Nat.le_trans (Nat.le_add_right _ _) h), List.length_drop]; omega
theorem del_get (r : List α) (k s : Nat) (h : k + s ≤ r.length) (i : Nat) : (del r k s)[i]? = if i < k then r[i]? else r[i + s]? := by
  unfold del
  rw [List.getElem?_append]
  have hl : (r.take k).length = k := tl_len (by omega)
  rw [hl]
  by_cases hi : i < k
  · rw [if_pos hi, if_pos hi, List.getElem?_take_of_lt hi]
  · rw [if_neg hi, if_neg hi, List.getElem?_drop]; congr 1; omega
theorem ins_len (r x : List α) (k : Nat) (h : k ≤ r.length) : (ins r k x).length = r.length + x.length := by
  rw [ins, List.length_append, List.length_append, tl_len h, List.length_drop]; omega
theorem ins_get (r x : List α) (k : Nat) (h : k ≤ r.length) (i : Nat) : (ins r k x)[i]? = if i < k then r[i]? else if i < k + x.length then x[i - k]? else r[i - x.length]? := by
  unfold ins
  have hl : (r.take k).length = k := tl_len (by omega)
  rw [List.append_assoc, List.getElem?_append, hl]
  by_cases hi : i < k
  · rw [if_pos hi, if_pos hi, List.getElem?_take_of_lt hi]
  · rw [if_neg hi, if_neg hi, List.getElem?_append]
    by_cases hx : i - k < x.length
    · rw [if_pos hx, if_pos (by omega)]
    · rw [if_neg hx, if_neg (by omega), List.getElem?_drop]; congr 1; omega

/-- two rows that are unlike from f to f + d - 1, and alike elsewhere -/
structure Unlike (r o : List α) (f d : Nat) : Prop where
  len : r.length = o.length
  pos : 1 ≤ d
  fit : f + d ≤ r.length
  before : ∀ i, i < f → r[i]? = o[i]?
  behind : ∀ i, f + d ≤ i → r[i]? = o[i]?
  first : r[f]? ≠ o[f]?
  last : r[f + d - 1]? ≠ o[f + d - 1]?
theorem Unlike.symm {r o : List α} {f d : Nat} (h : Unlike r o f d) : Unlike o r f d :=
  ⟨h.len.symm, h.pos, h.len ▸ h.fit, fun i hi => (h.before i hi).symm, fun i hi => (h.behind i hi).symm, h.first.symm, h.last.symm⟩

/-- what the law's condition says of single places -/
noncomputable def Shift (r o : List α) (f d s : Nat) : Prop := ∀ i, f ≤ i → i + s < f + d → r[i + s]? = o[i]?

theorem lev_del {r o : List α} {f d s k j : Nat} (U : Unlike r o f d) (hs : 1 ≤ s) (hsd : s ≤ d) (hk : k + s ≤ r.length) (hj : j + s ≤ o.length) (hkj : k ≤ j) (h : del r k s = del o j s) :
    Shift r o f d s ∧ del r k s = del r f s := by
  have g : ∀ i, (if i < k then r[i]? else r[i + s]?) = (if i < j then o[i]? else o[i + s]?) := fun i => by rw [← del_get r k s hk, ← del_get o j s hj, h]
  have hfk : k ≤ f := by
    rcases Nat.lt_or_ge f k with hh | hh
    · have := g f; rw [if_pos hh, if_pos (by omega)] at this; exact absurd this U.first
    · exact hh
  have hlj : f + d ≤ j + s := by
    rcases Nat.lt_or_ge (j + s) (f + d) with hh | hh
    · have := g (f + d - 1 - s)
      rw [if_neg (by omega), if_neg (by omega), show f + d - 1 - s + s = f + d - 1 by omega] at this
      exact absurd this U.last
    · exact hh
  have mid : ∀ i, k ≤ i → i < j → r[i + s]? = o[i]? := fun i h1 h2 => by
    have := g i; rw [if_neg (by omega), if_pos h2] at this; exact this
  refine ⟨fun i h1 h2 => mid i (by omega) (by omega), ?_⟩
  have hfs := U.fit
  refine List.ext_getElem? fun i => ?_
  rw [del_get r k s hk, del_get r f s (by omega)]
  by_cases h1 : i < k
  · rw [if_pos h1, if_pos (by omega)]
  · rw [if_neg h1]
    by_cases h2 : i < f
    · rw [if_pos h2, mid i (by omega) (by omega), U.before i h2]
    · rw [if_neg h2]
theorem lev_del_conv {r o : List α} {f d s : Nat} (U : Unlike r o f d) (hs : 1 ≤ s) (hsd : s ≤ d) (h : Shift r o f d s) : del r f s = del o (f + d - s) s := by
  have hf := U.fit
  have hl := U.len
  refine List.ext_getElem? fun i => ?_
  rw [del_get r f s (by omega), del_get o (f + d - s) s (by omega)]
  by_cases h1 : i < f
  · rw [if_pos h1, if_pos (by omega)]; exact U.before i h1
  · rw [if_neg h1]
    by_cases h2 : i < f + d - s
    · rw [if_pos h2]; exact h i (by omega) (by omega)
    · rw [if_neg h2]; exact U.behind _ (by omega)

theorem lev_ins {r o x y : List α} {f d s k m : Nat} (U : Unlike r o f d) (hs : 1 ≤ s) (hsd : s ≤ d) (hk : k ≤ r.length) (hm : m ≤ o.length) (hx : x.length = s) (hy : y.length = s) (hkm : k ≤ m) (h : ins r k y = ins o m x) :
    Shift o r f d s ∧ ins r k y = ins r f ((o.drop f).take s) := by
  have g : ∀ i, (if i < k then r[i]? else if i < k + s then y[i - k]? else r[i - s]?) = (if i < m then o[i]? else if i < m + s then x[i - m]? else o[i - s]?) := fun i => by
    have e1 := ins_get r y k hk i
    have e2 := ins_get o x m hm i
    rw [hy] at e1; rw [hx] at e2
    rw [← e1, ← e2, h]
  have hfk : k ≤ f := by
    rcases Nat.lt_or_ge f k with hh | hh
    · have := g f; rw [if_pos hh, if_pos (by omega)] at this; exact absurd this U.first
    · exact hh
  have hlm : f + d ≤ m := by
    rcases Nat.lt_or_ge m (f + d) with hh | hh
    · have := g (f + d - 1 + s)
      rw [if_neg (by omega), if_neg (by omega), if_neg (by omega), if_neg (by omega), show f + d - 1 + s - s = f + d - 1 by omega] at this
      exact absurd this U.last
    · exact hh
  have mid : ∀ i, k ≤ i → i + s < m → r[i]? = o[i + s]? := fun i h1 h2 => by
    have := g (i + s); rw [if_neg (by omega), if_neg (by omega), if_pos h2, Nat.add_sub_cancel] at this; exact this
  refine ⟨fun i h1 h2 => (mid i (by omega) (by omega)).symm, ?_⟩
  have hf := U.fit
  have hl := U.len
  have hlen : ((o.drop f).take s).length = s := tdl_len (by omega)
  rw [h]
  refine List.ext_getElem? fun i => ?_
  rw [ins_get o x m hm, ins_get r _ f (by omega), hlen, hx]
  by_cases h1 : i < f
  · rw [if_pos h1, if_pos (by omega)]; exact (U.before i h1).symm
  · rw [if_neg h1]
    by_cases h2 : i < f + s
    · rw [if_pos h2, if_pos (by omega), List.getElem?_take_of_lt (by omega), List.getElem?_drop]; congr 1; omega
    · rw [if_neg h2, ← g i, if_neg (by omega), if_neg (by omega)]
/-- the text that both grow into, from either row -/
theorem grown_ins {r o : List α} {f d s : Nat} (U : Unlike r o f d) (hs : 1 ≤ s) (hsd : s ≤ d) (h : Shift o r f d s) : ins r f ((o.drop f).take s) = ins o (f + d) ((r.drop (f + d - s)).take s) := by
  have hf := U.fit
  have hl := U.len
  have l1 : ((o.drop f).take s).length = s := tdl_len (by omega)
  have l2 : ((r.drop (f + d - s)).take s).length = s := tdl_len (by omega)
  refine List.ext_getElem? fun i => ?_
  rw [ins_get r _ f (by omega), ins_get o _ (f + d) (by omega), l1, l2]
  by_cases h1 : i < f
  · rw [if_pos h1, if_pos (by omega)]; exact U.before i h1
  · rw [if_neg h1]
    by_cases h2 : i < f + s
    · rw [if_pos h2, if_pos (by omega), List.getElem?_take_of_lt (by omega), List.getElem?_drop]; congr 1; omega
    · rw [if_neg h2]
      by_cases h3 : i < f + d
      · rw [if_pos h3]
        have := h (i - s) (by omega) (by omega)
        rw [show i - s + s = i by omega] at this
        exact this.symm
      · rw [if_neg h3]
        by_cases h4 : i < f + d + s
        · rw [if_pos h4, List.getElem?_take_of_lt (by omega), List.getElem?_drop]; congr 1; omega
        · rw [if_neg h4]; exact U.behind _ (by omega)
end
end Mine
end

-- part MPlain4
section

open PySem PySem.W PyProof.Rows
set_option linter.unusedVariables false
set_option maxRecDepth 100000
namespace Mine

section
variable {α : Type}
/-- the unlike part of a row -/
noncomputable def midOf (r : List α) (f d : Nat) : List α := (r.take (f + d)).drop f
theorem midOf_len {r : List α} {f d : Nat} (h : f + d ≤ r.length) : (midOf r f d).length = d := tdd_len h
theorem midOf_get {r : List α} {f d i : Nat} (h : i < d) : (midOf r f d)[i]? = r[f + i]? := by
  rw [midOf, List.getElem?_drop, List.getElem?_take_of_lt (by omega)]
/-- the law's condition -/
noncomputable abbrev Cond (r o : List α) (f d s : Nat) : Prop := (midOf r f d).drop s = (midOf o f d).take (d - s)
theorem cond_iff {r o : List α} {f d s : Nat} (hr : f + d ≤ r.length) (ho : f + d ≤ o.length) (hsd : s ≤ d) : Cond r o f d s ↔ Shift r o f d s := by
  unfold Cond
  constructor
  · intro h i h1 h2
    have := congrArg (fun l : List α => l[i - f]?) h
    rw [List.getElem?_drop, midOf_get (by omega), List.getElem?_take_of_lt (by omega), midOf_get (by omega)] at this
    rw [show f + (s + (i - f)) = i + s by omega, show f + (i - f) = i by omega] at this
    exact this
  · intro h
    refine List.ext_getElem? fun i => ?_
    rw [List.getElem?_drop]
    by_cases hi : i < d - s
    · rw [midOf_get (by omega), List.getElem?_take_of_lt hi, midOf_get (by omega)]
      have := h (f + i) (by omega) (by omega)
      rw [← this]; congr 1; omega
    · rw [List.getElem?_eq_none (by rw [midOf_len hr]; omega), List.getElem?_eq_none (by rw [List.length_take]; omega)]
theorem mid_split {r : List α} {f d : Nat} (h : f + d ≤ r.length) : r.take f ++ midOf r f d ++ r.drop (f + d) = r := by
  unfold midOf
  rw [show r.take f = (r.take (f + d)).take f by rw [List.take_take]; congr 1; omega, List.take_append_drop, List.take_append_drop]
theorem del_mid {r : List α} {f d s : Nat} (h : f + d ≤ r.length) (hsd : s ≤ d) : r.take f ++ (midOf r f d).drop s ++ r.drop (f + d) = del r f s := by
  unfold del
  rw [List.append_assoc]
  congr 1
  have : r.drop f = midOf r f d ++ r.drop (f + d) := by
    have := congrArg (fun l : List α => l.drop f) (mid_split h)
    rw [List.append_assoc, List.drop_append, List.drop_of_length_le (by simp; omega), List.nil_append] at this
    rw [show f - (r.take f).length = 0 by simp; omega, List.drop_zero] at this
    exact this.symm
  rw [show r.drop (f + s) = (r.drop f).drop s by rw [List.drop_drop], this, List.drop_append_of_le_length (by rw [midOf_len h]; exact hsd)]

theorem sub_erase : ∀ {l l' : List α}, l.Sublist l' → l.length + 1 = l'.length → ∃ j, j < l'.length ∧ l = del l' j 1
  | _, _, .slnil, h => by simp at h
  | l, _, .cons a hs, h => by
    have : l = _ := hs.eq_of_length (by simpa using h)
    exact ⟨0, by simp, by simp [del]; exact this⟩
  | _, _, .cons_cons a hs, h => by
    obtain ⟨j, h1, h2⟩ := sub_erase hs (by simpa using h)
    refine ⟨j + 1, by simpa using h1, ?_⟩
    rw [h2]
    simp [del, Nat.add_right_comm]
theorem del_sub (l : List α) (j s : Nat) : (del l j s).Sublist l := by
  conv => rhs; rw [← List.take_append_drop j l]
  refine (List.Sublist.refl _).append ?_
  rw [← List.drop_drop]; exact List.drop_sublist _ _

theorem Unlike.heads {r o : List α} {f d : Nat} (U : Unlike r o f d) : o.take f = r.take f ∧ o.drop (f + d) = r.drop (f + d) := by
  constructor
  · refine List.ext_getElem? fun i => ?_
    by_cases hi : i < f
    · rw [List.getElem?_take_of_lt hi, List.getElem?_take_of_lt hi, U.before i hi]
    · rw [List.getElem?_eq_none (by simp; omega), List.getElem?_eq_none (by simp; omega)]
  · refine List.ext_getElem? fun i => ?_
    rw [List.getElem?_drop, List.getElem?_drop, U.behind _ (by omega)]
end

/-- what both rows lose into, as texts -/
noncomputable def lostF (r o : List (List Nat)) (f d s : Nat) : List (List Nat) :=
  (if Cond r o f d s then [(del r f s).flatten] else []) ++ (if Cond o r f d s then [(del o f s).flatten] else [])
noncomputable def grownF (r o : List (List Nat)) (f d s : Nat) : List (List Nat) :=
  (if Cond r o f d s then [(ins o f ((r.drop f).take s)).flatten] else []) ++ (if Cond o r f d s then [(ins r f ((o.drop f).take s)).flatten] else [])
/-- all texts that a row loses into -/
noncomputable def leftF (r : List (List Nat)) (s : Nat) : List (List Nat) := (List.range (r.length - s + 1)).map fun k => (del r k s).flatten
theorem leftF_mem {r : List (List Nat)} {s : Nat} {t : List Nat} (hs : s ≤ r.length) : t ∈ leftF r s ↔ ∃ k, k + s ≤ r.length ∧ t = (del r k s).flatten := by
  unfold leftF
  rw [List.mem_map]
  constructor
  · rintro ⟨k, hk, rfl⟩; rw [List.mem_range] at hk; exact ⟨k, by omega, rfl⟩
  · rintro ⟨k, hk, rfl⟩; exact ⟨k, List.mem_range.mpr (by omega), rfl⟩

section
variable {r o : List (List Nat)} {f d s : Nat}

theorem lost_iff (U : Unlike r o f d) (hr : SgL r) (ho : SgL o) (hs : 1 ≤ s) (hsd : s ≤ d) (t : List Nat) : t ∈ lostF r o f d s ↔ ∃ k j, k + s ≤ r.length ∧ j + s ≤ o.length ∧ del r k s = del o j s ∧ t = (del r k s).flatten := by
  have hf := U.fit
  have hl := U.len
  have c1 := cond_iff (r := r) (o := o) U.fit U.symm.fit hsd
  have c2 := cond_iff (r := o) (o := r) U.symm.fit U.fit hsd
  unfold lostF
  constructor
  · intro h
    rcases List.mem_append.mp h with h | h
    · split at h
      · rename_i hc
        rw [List.mem_singleton] at h
        exact ⟨f, f + d - s, by omega, by omega, lev_del_conv U hs hsd (c1.mp hc), h⟩
      · cases h
    · split at h
      · rename_i hc
        rw [List.mem_singleton] at h
        have e := lev_del_conv U.symm hs hsd (c2.mp hc)
        exact ⟨f + d - s, f, by omega, by omega, e.symm, by rw [h, e]⟩
      · cases h
  · rintro ⟨k, j, hk, hj, he, rfl⟩
    rcases Nat.le_total k j with hkj | hkj
    · obtain ⟨h1, h2⟩ := lev_del U hs hsd hk hj hkj he
      rw [if_pos (c1.mpr h1), h2]; simp
    · obtain ⟨h1, h2⟩ := lev_del U.symm hs hsd hj hk hkj he.symm
      rw [if_pos (c2.mpr h1), he, h2]; simp
theorem lost_both (U : Unlike r o f d) (hr : SgL r) (ho : SgL o) (hs : 1 ≤ s) (hsd : s ≤ d) (t : List Nat) : (t ∈ leftF r s ∧ t ∈ leftF o s) ↔ t ∈ lostF r o f d s := by
  have hf := U.fit
  have hl := U.len
  rw [lost_iff U hr ho hs hsd, leftF_mem (by omega), leftF_mem (by omega)]
  constructor
  · rintro ⟨⟨k, hk, h1⟩, j, hj, h2⟩
    exact ⟨k, j, hk, hj, flat_inj (hr.del k s) (ho.del j s) (h1.symm.trans h2), h1⟩
  · rintro ⟨k, j, hk, hj, he, rfl⟩
    exact ⟨⟨k, hk, rfl⟩, j, hj, by rw [he]⟩
theorem told_iff (U : Unlike r o f d) (hr : SgL r) (ho : SgL o) {k : Nat} (hk : k < r.length) : (del r k 1).Sublist o ↔ (del r k 1).flatten ∈ lostF r o f d 1 := by
  rw [lost_iff U hr ho (Nat.le_refl _) U.pos]
  have hl := U.len
  constructor
  · intro h
    obtain ⟨j, h1, h2⟩ := sub_erase h (by rw [del_len r k 1 (by omega)]; omega)
    exact ⟨k, j, by omega, by omega, h2, rfl⟩
  · rintro ⟨k', j, h1, h2, h3, h4⟩
    rw [flat_inj (hr.del k 1) (hr.del k' 1) h4, h3]
    exact del_sub o j 1
end
end Mine
end

-- part MPlain5
section

open PySem PySem.W PyProof.Rows
set_option linter.unusedVariables false
set_option maxRecDepth 100000
namespace Mine

section
variable {α : Type}
theorem del_ins (a x : List α) (k : Nat) (h : k ≤ a.length) : del (ins a k x) k x.length = a := by
  have hl : (a.take k).length = k := tl_len (by omega)
  unfold del ins
  rw [List.append_assoc, show ((a.take k) ++ (x ++ a.drop k)).take k = a.take k by rw [List.take_append_of_le_length (by omega), List.take_of_length_le (by omega)]]
  rw [← List.drop_drop, show ((a.take k) ++ (x ++ a.drop k)).drop k = x ++ a.drop k by rw [List.drop_append_of_le_length (by omega), List.drop_of_length_le (by omega), List.nil_append], List.drop_left, List.take_append_drop]
theorem drop_mid {r : List α} {f d : Nat} (h : f + d ≤ r.length) : r.drop f = midOf r f d ++ r.drop (f + d) := by
  have := congrArg (fun l : List α => l.drop f) (mid_split h)
  rw [List.append_assoc, List.drop_append, List.drop_of_length_le (by simp; omega), List.nil_append] at this
  rw [show f - (r.take f).length = 0 by simp; omega, List.drop_zero] at this
  exact this.symm
theorem signs_eq {r o : List α} {f d s : Nat} (U : Unlike r o f d) (hsd : s ≤ d) : r.take f ++ (midOf r f d).take s ++ midOf o f d ++ r.drop (f + d) = ins o f ((r.drop f).take s) := by
  unfold ins
  rw [U.heads.1, drop_mid U.symm.fit, U.heads.2, drop_mid U.fit, List.take_append_of_le_length (by rw [midOf_len U.fit]; exact hsd), List.append_assoc (r.take f ++ _)]
theorem first_ne {r o : List α} {f d s : Nat} (U : Unlike r o f d) (hs : 1 ≤ s) (hsd : s ≤ d) : ins o f ((r.drop f).take s) ≠ ins r f ((o.drop f).take s) := fun h => by
  have hf := U.fit
  have hl := U.len
  have key : ∀ (a b : List α), f ≤ a.length → f + s ≤ b.length → (ins a f ((b.drop f).take s))[f]? = b[f]? := fun a b ha hb => by
    have hlen : ((b.drop f).take s).length = s := tdl_len (by omega)
    rw [ins_get a _ f ha f, hlen, if_neg (Nat.lt_irrefl f), if_pos (by omega), Nat.sub_self, List.getElem?_take_of_lt (by omega), List.getElem?_drop, Nat.add_zero]
  have e := congrArg (fun l : List α => l[f]?) h
  have e : (ins o f ((r.drop f).take s))[f]? = (ins r f ((o.drop f).take s))[f]? := e
  rw [key o r (by omega) (by omega), key r o (by omega) (by omega)] at e
  exact U.first e
end

section
variable {r o : List (List Nat)} {f d s : Nat}

theorem hide_guest (U : Unlike r o f d) (hr : SgL r) (ho : SgL o) (hs : 1 ≤ s) (hsd : s ≤ d) : hideF (ins o f ((r.drop f).take s)) f s = o.flatten := by
  have hf := U.fit
  have hl := U.len
  rw [hide_sg (ho.ins ((hr.drop f).take s) f)]
  have := del_ins o ((r.drop f).take s) f (by omega)
  rw [show ((r.drop f).take s).length = s by simp; omega] at this
  rw [this]
theorem hide_owner (U : Unlike r o f d) (hr : SgL r) (ho : SgL o) (hs : 1 ≤ s) (hsd : s ≤ d) (hc : Cond r o f d s) : hideF (ins o f ((r.drop f).take s)) (f + d) s = r.flatten := by
  have hf := U.fit
  have hl := U.len
  have hsh := (cond_iff U.fit U.symm.fit hsd).mp hc
  rw [hide_sg (ho.ins ((hr.drop f).take s) f), grown_ins U.symm hs hsd hsh]
  have := del_ins r ((o.drop (f + d - s)).take s) (f + d) (by omega)
  rw [show ((o.drop (f + d - s)).take s).length = s by simp; omega] at this
  rw [this]
theorem strip_both (U : Unlike r o f d) (hr : SgL r) (ho : SgL o) (hsd : s ≤ d) (hc : Cond r o f d s) :
    stripF ((r.take f ++ [[34]] ++ (midOf r f d).take s ++ [[34]] ++ (midOf o f d).take (d - s) ++ [[34]] ++ (midOf o f d).drop (d - s) ++ [[34]] ++ r.drop (f + d)).flatten) = (del r f s).flatten := by
  have hm : SgL (midOf r f d) := (hr.take _).drop _
  have hn : SgL (midOf o f d) := (ho.take _).drop _
  rw [strip2 (hr.take f) (hm.take s) (hn.take _) (hn.drop _) (hr.drop _), ← hc, del_mid U.fit hsd]

/-- the parts of a row's patterns with dots -/
noncomputable def patsOf (t : List (List Nat)) : List (List (List Nat)) := (List.range (t.length + 1)).map fun k => [(t.take k).flatten, (t.drop k).flatten]
theorem dots_pats (t : List (List Nat)) : dotsF t = (patsOf t).map (inter dot3) := by
  unfold dotsF patsOf
  rw [List.map_map]
  rfl
theorem fits_pats {t r : List (List Nat)} (ht : SgL t) (hr : SgL r) : fitsF (patsOf t) r.flatten = true ↔ ∃ k, k ≤ t.length ∧ t.take k <+: r ∧ t.drop k <:+ r ∧ t.length ≤ r.length := by
  unfold fitsF patsOf
  rw [List.any_map, List.any_eq_true]
  constructor
  · rintro ⟨k, hk, h⟩
    rw [List.mem_range] at hk
    simp only [Function.comp_def] at h
    rw [ell_two_sg (ht.take k) (ht.drop k) hr, decide_eq_true_eq] at h
    refine ⟨k, by omega, h.1, h.2.1, ?_⟩
    have := h.2.2
    simp only [List.length_take, List.length_drop] at this; omega
  · rintro ⟨k, hk, h1, h2, h3⟩
    refine ⟨k, List.mem_range.mpr (by omega), ?_⟩
    simp only [Function.comp_def]
    rw [ell_two_sg (ht.take k) (ht.drop k) hr, decide_eq_true_eq]
    exact ⟨h1, h2, by simp only [List.length_take, List.length_drop]; omega⟩
theorem fits_left {t r : List (List Nat)} (ht : SgL t) (hr : SgL r) (hl : t.length + s = r.length) : fitsF (patsOf t) r.flatten = decide (t.flatten ∈ leftF r s) := by
  rw [Bool.eq_iff_iff, decide_eq_true_eq, fits_pats ht hr, leftF_mem (by omega)]
  constructor
  · rintro ⟨k, hk, h1, h2, _⟩
    refine ⟨k, by omega, ?_⟩
    have e1 : r.take k = t.take k := by
      have := (List.prefix_iff_eq_take.mp h1).symm
      rwa [List.length_take, Nat.min_eq_left hk] at this
    have e2 : r.drop (k + s) = t.drop k := by
      have := (List.suffix_iff_eq_drop.mp h2).symm
      rwa [List.length_drop, show r.length - (t.length - k) = k + s by omega] at this
    rw [del, e1, e2, List.take_append_drop]
  · rintro ⟨k, hk, h⟩
    have e : t = del r k s := flat_inj ht (hr.del k s) h
    have hlk : (r.take k).length = k := tl_len (by omega)
    refine ⟨k, by omega, ?_, ?_, by omega⟩
    · rw [e, del, List.take_append_of_le_length (by omega), List.take_of_length_le (by omega)]; exact List.take_prefix _ _
    · rw [e, del, List.drop_append_of_le_length (by omega), List.drop_of_length_le (by omega), List.nil_append]; exact List.drop_suffix _ _
theorem fits_short {t r : List (List Nat)} (ht : SgL t) (hr : SgL r) (hl : t.length < r.length) : fitsF (patsOf r) t.flatten = false := by
  rw [Bool.eq_false_iff]
  intro h
  obtain ⟨k, _, _, _, h⟩ := (fits_pats hr ht).mp h
  omega
theorem fits_self {r : List (List Nat)} (hr : SgL r) : ∀ p ∈ patsOf r, ellF p r.flatten = true := by
  intro p hp
  unfold patsOf at hp
  obtain ⟨k, hk, rfl⟩ := List.mem_map.mp hp
  rw [List.mem_range] at hk
  rw [ell_two_sg (hr.take k) (hr.drop k) hr, decide_eq_true_eq]
  exact ⟨List.take_prefix _ _, List.drop_suffix _ _, by simp only [List.length_take, List.length_drop]; omega⟩
theorem fits_ins {T : List (List Nat)} (ho : SgL o) (hT : SgL T) (hl : T.length = o.length + s) : fitsF (patsOf o) T.flatten = true ↔ ∃ m x, m ≤ o.length ∧ x.length = s ∧ T = ins o m x := by
  rw [fits_pats ho hT]
  constructor
  · rintro ⟨m, hm, h1, h2, _⟩
    have e1 : T.take m = o.take m := by
      have := (List.prefix_iff_eq_take.mp h1).symm
      rwa [List.length_take, Nat.min_eq_left hm] at this
    have e2 : T.drop (m + s) = o.drop m := by
      have := (List.suffix_iff_eq_drop.mp h2).symm
      rwa [List.length_drop, show T.length - (o.length - m) = m + s by omega] at this
    refine ⟨m, (T.drop m).take s, hm, by simp; omega, ?_⟩
    rw [ins, ← e1, ← e2, List.append_assoc, ← List.drop_drop, List.take_append_drop, List.take_append_drop]
  · rintro ⟨m, x, hm, hx, rfl⟩
    have hlm : (o.take m).length = m := tl_len (by omega)
    refine ⟨m, hm, ?_, ?_, by omega⟩
    · rw [ins, List.append_assoc]; exact List.prefix_append _ _
    · rw [ins]; exact List.suffix_append _ _

/-- the texts that the law tries: the first row with signs of the second put in -/
noncomputable def textsF (r o : List (List Nat)) (s : Nat) : List (List Nat) :=
  (List.range (r.length + 1)).flatMap fun k => (List.range (r.length - s + 1)).map fun m => (ins r k ((o.take (m + s)).drop m)).flatten
theorem grown_iff (U : Unlike r o f d) (hr : SgL r) (ho : SgL o) (hs : 1 ≤ s) (hsd : s ≤ d) (t : List Nat) : (t ∈ textsF r o s ∧ fitsF (patsOf o) t = true) ↔ t ∈ grownF r o f d s := by
  have hf := U.fit
  have hl := U.len
  have c1 := cond_iff (r := r) (o := o) U.fit U.symm.fit hsd
  have c2 := cond_iff (r := o) (o := r) U.symm.fit U.fit hsd
  have mem : ∀ k m, k ≤ r.length → m + s ≤ r.length → (ins r k ((o.drop m).take s)).flatten ∈ textsF r o s := fun k m hk hm => by
    refine List.mem_flatMap.mpr ⟨k, List.mem_range.mpr (by omega), List.mem_map.mpr ⟨m, List.mem_range.mpr (by omega), ?_⟩⟩
    rw [List.drop_take, show m + s - m = s by omega]
  constructor
  · rintro ⟨ht, hfit⟩
    obtain ⟨k, hk, ht⟩ := List.mem_flatMap.mp ht
    obtain ⟨m, hm, rfl⟩ := List.mem_map.mp ht
    rw [List.mem_range] at hk hm
    have hy : ((o.take (m + s)).drop m).length = s := tdd_len (by omega)
    have hyS : SgL ((o.take (m + s)).drop m) := (ho.take _).drop _
    obtain ⟨m', x, hm', hx, he⟩ := (fits_ins (s := s) ho (hr.ins hyS k) (by rw [ins_len _ _ _ (by omega), hy]; omega)).mp hfit
    unfold grownF
    rcases Nat.le_total k m' with hkm | hkm
    · obtain ⟨h1, h2⟩ := lev_ins U hs hsd (by omega) hm' hx hy hkm he
      rw [if_pos (c2.mpr h1), h2]; simp
    · obtain ⟨h1, h2⟩ := lev_ins U.symm hs hsd hm' (by omega) hy hx hkm he.symm
      rw [if_pos (c1.mpr h1), he, h2]; simp
  · intro h
    unfold grownF at h
    have hl1 : ((r.drop f).take s).length = s := tdl_len (by omega)
    have hl2 : ((o.drop f).take s).length = s := tdl_len (by omega)
    have hl3 : ((o.drop (f + d - s)).take s).length = s := tdl_len (by omega)
    have hl4 : ((r.drop (f + d - s)).take s).length = s := tdl_len (by omega)
    rcases List.mem_append.mp h with h | h
    · split at h
      · rename_i hc
        rw [List.mem_singleton] at h
        subst h
        have e := grown_ins U.symm hs hsd (c1.mp hc)
        refine ⟨by rw [e]; exact mem _ _ (by omega) (by omega), ?_⟩
        exact (fits_ins (s := s) ho (ho.ins ((hr.drop f).take s) f) (by rw [ins_len _ _ _ (by omega), hl1])).mpr ⟨f, _, by omega, hl1, rfl⟩
      · cases h
    · split at h
      · rename_i hc
        rw [List.mem_singleton] at h
        subst h
        have e := grown_ins U hs hsd (c2.mp hc)
        refine ⟨mem _ _ (by omega) (by omega), ?_⟩
        exact (fits_ins (s := s) ho (hr.ins ((ho.drop f).take s) f) (by rw [ins_len _ _ _ (by omega), hl2]; omega)).mpr ⟨f + d, _, by omega, hl4, e⟩
      · cases h
theorem grown_nodup (U : Unlike r o f d) (hr : SgL r) (ho : SgL o) (hs : 1 ≤ s) (hsd : s ≤ d) : (grownF r o f d s).Nodup := by
  unfold grownF
  split
  · split
    · simp only [List.cons_append, List.nil_append, List.nodup_cons, List.mem_singleton, List.not_mem_nil, not_false_eq_true, List.nodup_nil, and_true]
      intro h
      exact first_ne U hs hsd (flat_inj (ho.ins ((hr.drop f).take s) f) (hr.ins ((ho.drop f).take s) f) h)
    · simp
  · split <;> simp
theorem srt_dd_congr {a b : List (List Nat)} (h : ∀ x, x ∈ a ↔ x ∈ b) : srt (dd a) = srt (dd b) := by
  refine srt_unique (srt_pw _) (srt_pw _) ((srt_perm _).trans (List.Perm.trans ?_ (srt_perm _).symm))
  exact (List.perm_ext_iff_of_nodup (dd_nodup a) (dd_nodup b)).mpr fun x => by rw [dd_mem, dd_mem]; exact h x
theorem lost_sorted (U : Unlike r o f d) (hr : SgL r) (ho : SgL o) (hs : 1 ≤ s) (hsd : s ≤ d) : srt (dd ((leftF r s).filter fun t => decide (t ∈ leftF o s))) = srt (dd (lostF r o f d s)) :=
  srt_dd_congr fun x => by rw [List.mem_filter, decide_eq_true_eq]; exact lost_both U hr ho hs hsd x
theorem grown_sorted (U : Unlike r o f d) (hr : SgL r) (ho : SgL o) (hs : 1 ≤ s) (hsd : s ≤ d) : (srt (dd (textsF r o s))).filter (fun t => fitsF (patsOf o) t) = srt (grownF r o f d s) := by
  refine srt_unique ((srt_pw _).sublist List.filter_sublist) (srt_pw _) (List.Perm.trans ?_ (srt_perm _).symm)
  refine (List.perm_ext_iff_of_nodup ?_ (grown_nodup U hr ho hs hsd)).mpr fun x => ?_
  · exact List.Nodup.sublist List.filter_sublist ((srt_perm _).nodup_iff.mpr (dd_nodup _))
  · rw [List.mem_filter, (srt_perm _).mem_iff, dd_mem]; exact grown_iff U hr ho hs hsd x
end
end Mine
end

-- part MPlain6
section

open PySem PySem.W PyProof.Rows
set_option linter.unusedVariables false
set_option maxRecDepth 100000
namespace Mine

theorem row_sg (ns : List Int) : SgL (rowOf ns) := fun x hx => by
  obtain ⟨y, _, rfl⟩ := List.mem_map.mp hx
  exact kd_sg y
theorem row_len (ns : List Int) : (rowOf ns).length = ns.length := by simp [rowOf]
theorem four_cases (m : Int) (h1 : 0 ≤ m) (h2 : m < 4) : m = 0 ∨ m = 1 ∨ m = 2 ∨ m = 3 := by omega
theorem kd_ne (x : Int) : kd x ≠ kd (x + 1) := by
  obtain ⟨h1, h2⟩ := fmod_range x 4 (by decide)
  have e : (x + 1).fmod 4 = (x.fmod 4 + 1) % 4 := by
    rw [Int.fmod_eq_emod_of_nonneg _ (by decide), Int.fmod_eq_emod_of_nonneg _ (by decide)]
    exact (Int.emod_add_emod x 4 1).symm
  unfold kd
  rw [e]
  rcases four_cases _ h1 h2 with h | h | h | h <;> rw [h] <;> decide
theorem size_range (ns : List Int) : 1 ≤ sizeOf' ns ∧ sizeOf' ns ≤ 2 := by
  have := fmod_range ((ns.getD 0 0).fdiv 4) 2 (by decide)
  unfold sizeOf'; omega
theorem left_len (ns : List Int) (out : Nat) (h : out + sizeOf' ns ≤ ns.length) : (leftAt ns out).length = ns.length - sizeOf' ns := by
  rw [leftAt, List.length_append, tl_len (by rw [row_len]; exact Nat.le_trans (Nat.le_add_right _ _) h), List.length_drop, row_len]; omega
theorem put_len (ns : List Int) (left : List (List Nat)) (place : Nat) (h4 : 4 ≤ ns.length) (hl : left.length = ns.length - sizeOf' ns) (hp : place ≤ left.length) : (putAt ns left place).length = ns.length := by
  have := size_range ns
  rw [putAt, List.length_append, List.length_append, List.length_map, tl_len hp, tdd_len (by omega), List.length_drop]; omega
theorem put_sg (ns : List Int) (left : List (List Nat)) (place : Nat) (h : SgL left) : SgL (putAt ns left place) := by
  refine SgL.append.mpr ⟨SgL.append.mpr ⟨h.take _, fun x hx => ?_⟩, h.drop _⟩
  obtain ⟨y, _, rfl⟩ := List.mem_map.mp hx
  exact kd_sg _
theorem other_spec (ns : List Int) (h4 : 4 ≤ ns.length) : SgL (otherOf ns) ∧ (otherOf ns).length = ns.length ∧ rowOf ns ≠ otherOf ns := by
  have hs := size_range ns
  have ho := fmod_range ((ns.getD 0 0).fdiv 8) ((ns.length - sizeOf' ns + 1 : Nat) : Int) (by omega)
  have hp := fmod_range ((ns.getD 1 0).fdiv 4) ((ns.length - sizeOf' ns + 1 : Nat) : Int) (by omega)
  unfold otherOf
  dsimp only
  have hol : (((ns.getD 0 0).fdiv 8).fmod ((ns.length - sizeOf' ns + 1 : Nat) : Int)).toNat + sizeOf' ns ≤ ns.length := by omega
  have hpl : (((ns.getD 1 0).fdiv 4).fmod ((ns.length - sizeOf' ns + 1 : Nat) : Int)).toNat ≤ ns.length - sizeOf' ns := by omega
  generalize (((ns.getD 0 0).fdiv 8).fmod ((ns.length - sizeOf' ns + 1 : Nat) : Int)).toNat = out at hol ⊢
  generalize (((ns.getD 1 0).fdiv 4).fmod ((ns.length - sizeOf' ns + 1 : Nat) : Int)).toNat = place at hpl ⊢
  have hll := left_len ns out hol
  have hls : SgL (leftAt ns out) := SgL.append.mpr ⟨(row_sg ns).take _, (row_sg ns).drop _⟩
  split
  · refine ⟨SgL.append.mpr ⟨fun x hx => row_sg ns x (List.dropLast_subset _ hx), fun x hx => ?_⟩, ?_, ?_⟩
    · rw [List.mem_singleton] at hx; subst hx; exact kd_sg _
    · rw [List.length_append, List.length_dropLast, row_len]; simp; omega
    · intro h
      have e := congrArg (fun l : List (List Nat) => l[ns.length - 1]?) h
      have e : (rowOf ns)[ns.length - 1]? = ((rowOf ns).dropLast ++ [kd (ns.getD (ns.length - 1) 0 + 1)])[ns.length - 1]? := e
      rw [List.getElem?_append_right (by rw [List.length_dropLast, row_len]; exact Nat.le_refl _), List.length_dropLast, row_len, Nat.sub_self, rowOf, List.getElem?_map, List.getElem?_eq_getElem (show ns.length - 1 < ns.length by omega)] at e
      simp only [Option.map_some, List.getElem?_cons_zero, Option.some.injEq] at e
      have hg : ns.getD (ns.length - 1) 0 = ns[ns.length - 1] := by
        rw [List.getD_eq_getElem?_getD, List.getElem?_eq_getElem (show ns.length - 1 < ns.length by omega)]; rfl
      rw [hg] at e
      exact kd_ne _ e
  · rename_i h
    exact ⟨put_sg ns _ _ hls, put_len ns _ _ h4 hll (by omega), Ne.symm h⟩

/-- the places at which two rows are unlike -/
noncomputable def unlikeL (r o : List (List Nat)) : List Nat := (List.range r.length).filter fun k => decide (r.getD k [] ≠ o.getD k [])
theorem unlike_mem {r o : List (List Nat)} (hl : r.length = o.length) (k : Nat) : k ∈ unlikeL r o ↔ k < r.length ∧ r[k]? ≠ o[k]? := by
  unfold unlikeL
  rw [List.mem_filter, List.mem_range, decide_eq_true_eq]
  refine and_congr_right fun h => ?_
  rw [List.getD_eq_getElem?_getD, List.getD_eq_getElem?_getD, List.getElem?_eq_getElem h, List.getElem?_eq_getElem (hl ▸ h)]
  simp
theorem unlike_spec {r o : List (List Nat)} (hl : r.length = o.length) (hne : r ≠ o) :
    ∃ f d, unlikeL r o ≠ [] ∧ (unlikeL r o)[0]? = some f ∧ (unlikeL r o)[(unlikeL r o).length - 1]? = some (f + d - 1) ∧ Unlike r o f d := by
  have hpw : (unlikeL r o).Pairwise (· < ·) := (List.pairwise_lt_range).sublist List.filter_sublist
  have hnil : unlikeL r o ≠ [] := by
    intro h
    apply hne
    refine List.ext_getElem? fun i => ?_
    rcases Nat.lt_or_ge i r.length with hi | hi
    · by_cases q : r[i]? = o[i]?
      · exact q
      · have := (unlike_mem hl i).mpr ⟨hi, q⟩
        rw [h] at this; cases this
    · rw [List.getElem?_eq_none hi, List.getElem?_eq_none (by omega)]
  have hmem := unlike_mem hl
  generalize unlikeL r o = L at hpw hnil hmem ⊢
  have hpos := List.length_pos_iff.mpr hnil
  have h0 : L[0]? = some L[0] := List.getElem?_eq_getElem hpos
  have hz : L[L.length - 1]? = some L[L.length - 1] := List.getElem?_eq_getElem (by omega)
  have hle : ∀ x ∈ L, L[0] ≤ x ∧ x ≤ L[L.length - 1] := by
    intro x hx
    obtain ⟨i, hi, rfl⟩ := List.mem_iff_getElem.mp hx
    rw [List.pairwise_iff_getElem] at hpw
    constructor
    · rcases Nat.eq_zero_or_pos i with rfl | h
      · exact Nat.le_refl _
      · exact Nat.le_of_lt (hpw 0 i hpos hi h)
    · rcases Nat.lt_or_ge i (L.length - 1) with h | h
      · exact Nat.le_of_lt (hpw i (L.length - 1) hi (by omega) h)
      · have : i = L.length - 1 := by omega
        subst this; exact Nat.le_refl _
  have m0 := (hmem L[0]).mp (List.getElem_mem hpos)
  have mz := (hmem L[L.length - 1]).mp (List.getElem_mem (by omega))
  have hfz := (hle L[0] (List.getElem_mem hpos)).2
  refine ⟨L[0], L[L.length - 1] - L[0] + 1, hnil, h0, by rw [hz]; congr 1; omega, hl, by omega, by omega, fun i hi => ?_, fun i hi => ?_, m0.2, ?_⟩
  · by_cases q : r[i]? = o[i]?
    · exact q
    · have := (hle i ((hmem i).mpr ⟨by omega, q⟩)).1; omega
  · by_cases q : r[i]? = o[i]?
    · exact q
    · rcases Nat.lt_or_ge i r.length with h | h
      · have := (hle i ((hmem i).mpr ⟨h, q⟩)).2; omega
      · rw [List.getElem?_eq_none h, List.getElem?_eq_none (by omega)]
  · rw [show L[0] + (L[L.length - 1] - L[0] + 1) - 1 = L[L.length - 1] by omega]; exact mz.2
end Mine
end

-- part MLaw0
section

open PySem PySem.W PyProof.Rows
set_option linter.unusedVariables false
set_option maxRecDepth 100000
namespace Mine

/-- a list of at most n short texts -/
structure Sm (ls : List (List Nat)) (n : Nat) : Prop where
  len : ls.length ≤ n
  each : ∀ x ∈ ls, x.length ≤ 2
theorem SgL.sm {ls : List (List Nat)} {n : Nat} (h : SgL ls) (hl : ls.length ≤ n) : Sm ls n := ⟨hl, fun x hx => (h x hx).pos.2⟩
theorem Sm.app {a b : List (List Nat)} {n m : Nat} (x : Sm a n) (y : Sm b m) : Sm (a ++ b) (n + m) :=
  ⟨by rw [List.length_append]; exact Nat.add_le_add x.len y.len, fun z hz => (List.mem_append.mp hz).elim (x.each z) (y.each z)⟩
theorem Sm.take {a : List (List Nat)} {n : Nat} (x : Sm a n) (k : Nat) : Sm (a.take k) n := ⟨by rw [List.length_take]; have := x.len; omega, fun z hz => x.each z (List.mem_of_mem_take hz)⟩
theorem Sm.drop {a : List (List Nat)} {n : Nat} (x : Sm a n) (k : Nat) : Sm (a.drop k) n := ⟨by rw [List.length_drop]; have := x.len; omega, fun z hz => x.each z (List.mem_of_mem_drop hz)⟩
theorem Sm.sum {a : List (List Nat)} {n : Nat} (x : Sm a n) : (a.map List.length).sum ≤ 2 * n := by
  have h := sum_le x.each
  have := x.len
  omega
theorem Sm.flat {a : List (List Nat)} {n : Nat} (x : Sm a n) : a.flatten.length ≤ 2 * n := by rw [len_flatten]; exact x.sum

section
variable {prog : Program} {w : World} {h₁ : Heap} {mg mb : Str → Option Value} {n : Nat} {sc : Scope} {σ σ' : List (Str × D)}

/-- e gives the short list ls, of at most k texts -/
noncomputable def EvT (prog : Program) (w : World) (h₁ : Heap) (n : Nat) (sc : Scope) (σ : List (Str × D)) (e : Expr) (ls : List (List Nat)) (k : Nat) : Prop := EvE prog w h₁ n sc σ e (tL ls) ∧ Sm ls k
theorem EvT.add {l r : Expr} {pos : Pos} {a b : List (List Nat)} {k m : Nat} (x : EvT prog w h₁ n sc σ l a k) (y : EvT prog w h₁ n sc σ r b m) (hz : k + m ≤ 1000) : EvT prog w h₁ n sc σ (.BinOp l .Add r pos) (a ++ b) (k + m) :=
  ⟨EvE.binop x.1 y.1 (OpE.add_T (by have := x.2.len; have := y.2.len; omega)), x.2.app y.2⟩
theorem EvT.from_ {v i : Expr} {p pos : Pos} {a : List (List Nat)} {k j : Nat} (x : EvT prog w h₁ n sc σ v a k) (y : EvE prog w h₁ n sc σ i (.int (j : Int))) (hz : k ≤ 1000) : EvT prog w h₁ n sc σ (.Subscript v (.Slice (some i) none none p) pos) (a.drop j) k :=
  ⟨EvE.cast (EvE.cutT x.1 (EvP.some y) EvP.none (by have := x.2.len; omega)) (by rw [cut_from]), x.2.drop j⟩
theorem EvT.upto {v i : Expr} {p pos : Pos} {a : List (List Nat)} {k j : Nat} (x : EvT prog w h₁ n sc σ v a k) (y : EvE prog w h₁ n sc σ i (.int (j : Int))) (hz : k ≤ 1000) : EvT prog w h₁ n sc σ (.Subscript v (.Slice none (some i) none p) pos) (a.take j) k :=
  ⟨EvE.cast (EvE.cutT x.1 EvP.none (EvP.some y) (by have := x.2.len; omega)) (by rw [cut_upto]), x.2.take j⟩
theorem EvT.both {v i i' : Expr} {p pos : Pos} {a : List (List Nat)} {k j j' : Nat} (x : EvT prog w h₁ n sc σ v a k) (y : EvE prog w h₁ n sc σ i (.int (j : Int))) (y' : EvE prog w h₁ n sc σ i' (.int (j' : Int))) (hz : k ≤ 1000) : EvT prog w h₁ n sc σ (.Subscript v (.Slice (some i) (some i') none p) pos) ((a.take j').drop j) k :=
  ⟨EvE.cast (EvE.cutT x.1 (EvP.some y) (EvP.some y') (by have := x.2.len; omega)) (by rw [cut_both]), (x.2.take j').drop j⟩
theorem EvT.quote {k : Nat} {p pos : Pos} : EvT prog w h₁ n sc σ (.List [.Constant (.str (Str.ofString "\"")) k p] pos) [[34]] 1 := ⟨EvE.disp1 EvE.k_quote (by intro _; rfl), by simp, by simp⟩
theorem EvT.empty {k : Nat} {p pos : Pos} : EvT prog w h₁ n sc σ (.List [.Constant (.str (Str.ofString "")) k p] pos) [[]] 1 := ⟨EvE.disp1 EvE.k_empty (by intro _; rfl), by simp, by simp⟩
theorem EvT.join {e : Expr} {k : Nat} {kp ap pos : Pos} {ls : List (List Nat)} {m : Nat} (x : EvT prog w h₁ n sc σ e ls m) (hz : m ≤ 1000) (he : ∀ env, starEach [e] env = [(false, eval e env)]) (hp : ∀ env, methodCallPos true (.Constant (.str (Str.ofString "")) k kp) env ap pos = pure pos) : EvE prog w h₁ n sc σ (.Call (.Attribute (.Constant (.str (Str.ofString "")) k kp) (Str.ofString "join") ap) [e] [] pos) (tx ls.flatten) := by
  rw [← inter_nil]
  refine EvE.mt EvE.k_empty (EvL.cons' x.1 EvL.nil he) MethE.join_t (CallE.join_T (by have := x.2.sum; simp only [List.length_nil, Nat.mul_zero, Nat.add_zero]; omega)) (fun _ _ => rfl) hp he (fun env => by rw [he env]; rfl) (fun env => ?_)
  rw [he env]; rfl
theorem EvT.joinD {e : Expr} {k : Nat} {kp ap pos : Pos} {ls : List (List Nat)} {m : Nat} (x : EvT prog w h₁ n sc σ e ls m) (hz : m ≤ 1000) (he : ∀ env, starEach [e] env = [(false, eval e env)]) (hp : ∀ env, methodCallPos true (.Constant (.str (Str.ofString "...")) k kp) env ap pos = pure pos) : EvE prog w h₁ n sc σ (.Call (.Attribute (.Constant (.str (Str.ofString "...")) k kp) (Str.ofString "join") ap) [e] [] pos) (tx (inter dot3 ls)) := by
  refine EvE.mt EvE.k_dots (EvL.cons' x.1 EvL.nil he) MethE.join_t (CallE.join_T (by have := x.2.sum; have := x.2.len; simp only [List.length_cons, List.length_nil]; omega)) (fun _ _ => rfl) hp he (fun env => by rw [he env]; rfl) (fun env => ?_)
  rw [he env]; rfl
theorem EvE.addN {l r : Expr} {pos : Pos} {a b : Nat} (x : EvE prog w h₁ n sc σ l (.int (a : Int))) (y : EvE prog w h₁ n sc σ r (.int (b : Int))) : EvE prog w h₁ n sc σ (.BinOp l .Add r pos) (.int ((a + b : Nat) : Int)) :=
  EvE.cast (EvE.binop x y OpE.add_int) (by congr 1)
theorem EvE.subN {l r : Expr} {pos : Pos} {a b : Nat} (x : EvE prog w h₁ n sc σ l (.int (a : Int))) (y : EvE prog w h₁ n sc σ r (.int (b : Int))) (h : b ≤ a) : EvE prog w h₁ n sc σ (.BinOp l .Sub r pos) (.int ((a - b : Nat) : Int)) :=
  EvE.cast (EvE.binop x y OpE.sub_int) (by congr 1; omega)
theorem EvE.oneN {k : Nat} {pos : Pos} : EvE prog w h₁ n sc σ (.Constant (.int 1) k pos) (.int ((1 : Nat) : Int)) := EvE.const_int
theorem ExL.asg2n {x y : Str} {px py tp pos : Pos} {k : Nat} {e : Expr} {d₁ d₂ : D} {σ'' : List (Str × D)} {rest : List Stmt} {o : Oc} (hs : ∀ env, swapsWithSole [.Tuple [.Name x px, .Name y py] k tp] e pos.line env = pure false)
    (hw : ∀ env, env.scope = sc → swappedStores [.Tuple [.Name x px, .Name y py] k tp] e env = pure none) (kx : KindS sc x) (ky : KindS sc y) (h : EvE prog w h₁ n sc σ e (.tuple [d₁, d₂])) (h1 : Set1 x d₁ σ σ') (h2 : Set1 y d₂ σ' σ'')
    (hr : ExL prog w h₁ n sc σ'' rest o) : ExL prog w h₁ n sc σ (.Assign [.Tuple [.Name x px, .Name y py] k tp] e pos :: rest) o := ExL.cons (ExS.assign2 h h1 h2 kx ky hs hw) hr
theorem EvB.orFF {x y : Expr} {pos : Pos} (hx : EvB prog w h₁ n sc σ x false) (hy : EvB prog w h₁ n sc σ y false) : EvB prog w h₁ n sc σ (.BoolOp .Or [x, y] pos) false := EvB.or2 hx fun _ => hy
end
end Mine
end

-- part MLawF
section

open PySem PySem.W PyProof.Rows
set_option linter.unusedVariables false
set_option maxRecDepth 100000
namespace Mine

/-- the frame of law -/
noncomputable def lw (d_row d_other d_size d_head d_tail d_first d_wide d_mine d_theirs d_lost d_grown d_one d_two d_owner d_guest d_signs d_both d_single d_told d_places d_left d_right d_text d_dots d_texts d_grows d_keeps d_k d_unlike d_numbers d_script : D) : List (Str × D) :=
  [(Str.ofString "row", d_row), (Str.ofString "other", d_other), (Str.ofString "size", d_size), (Str.ofString "head", d_head), (Str.ofString "tail", d_tail), (Str.ofString "first", d_first), (Str.ofString "wide", d_wide), (Str.ofString "mine", d_mine), (Str.ofString "theirs", d_theirs), (Str.ofString "lost", d_lost), (Str.ofString "grown", d_grown), (Str.ofString "one", d_one), (Str.ofString "two", d_two), (Str.ofString "owner", d_owner), (Str.ofString "guest", d_guest), (Str.ofString "signs", d_signs), (Str.ofString "both", d_both), (Str.ofString "single", d_single), (Str.ofString "told", d_told), (Str.ofString "places", d_places), (Str.ofString "left", d_left), (Str.ofString "right", d_right), (Str.ofString "text", d_text), (Str.ofString "dots", d_dots), (Str.ofString "texts", d_texts), (Str.ofString "grows", d_grows), (Str.ofString "keeps", d_keeps), (Str.ofString "k", d_k), (Str.ofString "unlike", d_unlike), (Str.ofString "numbers", d_numbers), (Str.ofString "script", d_script)]

section
variable {prog : Program} {w : World} {h₁ : Heap} {n : Nat} {sc : Scope}
theorem lk_row {d_row d_other d_size d_head d_tail d_first d_wide d_mine d_theirs d_lost d_grown d_one d_two d_owner d_guest d_signs d_both d_single d_told d_places d_left d_right d_text d_dots d_texts d_grows d_keeps d_k d_unlike d_numbers d_script : D} : Look (Str.ofString "row") (lw d_row d_other d_size d_head d_tail d_first d_wide d_mine d_theirs d_lost d_grown d_one d_two d_owner d_guest d_signs d_both d_single d_told d_places d_left d_right d_text d_dots d_texts d_grows d_keeps d_k d_unlike d_numbers d_script) d_row := .here
theorem st_row {d_row d_other d_size d_head d_tail d_first d_wide d_mine d_theirs d_lost d_grown d_one d_two d_owner d_guest d_signs d_both d_single d_told d_places d_left d_right d_text d_dots d_texts d_grows d_keeps d_k d_unlike d_numbers d_script : D} {d : D} : Set1 (Str.ofString "row") d (lw d_row d_other d_size d_head d_tail d_first d_wide d_mine d_theirs d_lost d_grown d_one d_two d_owner d_guest d_signs d_both d_single d_told d_places d_left d_right d_text d_dots d_texts d_grows d_keeps d_k d_unlike d_numbers d_script) (lw d d_other d_size d_head d_tail d_first d_wide d_mine d_theirs d_lost d_grown d_one d_two d_owner d_guest d_signs d_both d_single d_told d_places d_left d_right d_text d_dots d_texts d_grows d_keeps d_k d_unlike d_numbers d_script) := .here
theorem dbg_row : dbg (Str.ofString "row") = false := by decide +kernel
theorem nm_row {d_row d_other d_size d_head d_tail d_first d_wide d_mine d_theirs d_lost d_grown d_one d_two d_owner d_guest d_signs d_both d_single d_told d_places d_left d_right d_text d_dots d_texts d_grows d_keeps d_k d_unlike d_numbers d_script : D} {pos : Pos} (hk : d_row.ok = true) : EvE prog w h₁ n sc (lw d_row d_other d_size d_head d_tail d_first d_wide d_mine d_theirs d_lost d_grown d_one d_two d_owner d_guest d_signs d_both d_single d_told d_places d_left d_right d_text d_dots d_texts d_grows d_keeps d_k d_unlike d_numbers d_script) (.Name (Str.ofString "row") pos) d_row := EvE.nm lk_row hk dbg_row
theorem kn_row : KindS (fScope (stm 12)) (Str.ofString "row") := by decide +kernel
theorem lk_other {d_row d_other d_size d_head d_tail d_first d_wide d_mine d_theirs d_lost d_grown d_one d_two d_owner d_guest d_signs d_both d_single d_told d_places d_left d_right d_text d_dots d_texts d_grows d_keeps d_k d_unlike d_numbers d_script : D} : Look (Str.ofString "other") (lw d_row d_other d_size d_head d_tail d_first d_wide d_mine d_theirs d_lost d_grown d_one d_two d_owner d_guest d_signs d_both d_single d_told d_places d_left d_right d_text d_dots d_texts d_grows d_keeps d_k d_unlike d_numbers d_script) d_other := .there .here
theorem st_other {d_row d_other d_size d_head d_tail d_first d_wide d_mine d_theirs d_lost d_grown d_one d_two d_owner d_guest d_signs d_both d_single d_told d_places d_left d_right d_text d_dots d_texts d_grows d_keeps d_k d_unlike d_numbers d_script : D} {d : D} : Set1 (Str.ofString "other") d (lw d_row d_other d_size d_head d_tail d_first d_wide d_mine d_theirs d_lost d_grown d_one d_two d_owner d_guest d_signs d_both d_single d_told d_places d_left d_right d_text d_dots d_texts d_grows d_keeps d_k d_unlike d_numbers d_script) (lw d_row d d_size d_head d_tail d_first d_wide d_mine d_theirs d_lost d_grown d_one d_two d_owner d_guest d_signs d_both d_single d_told d_places d_left d_right d_text d_dots d_texts d_grows d_keeps d_k d_unlike d_numbers d_script) := .there .here
theorem dbg_other : dbg (Str.ofString "other") = false := by decide +kernel
theorem nm_other {d_row d_other d_size d_head d_tail d_first d_wide d_mine d_theirs d_lost d_grown d_one d_two d_owner d_guest d_signs d_both d_single d_told d_places d_left d_right d_text d_dots d_texts d_grows d_keeps d_k d_unlike d_numbers d_script : D} {pos : Pos} (hk : d_other.ok = true) : EvE prog w h₁ n sc (lw d_row d_other d_size d_head d_tail d_first d_wide d_mine d_theirs d_lost d_grown d_one d_two d_owner d_guest d_signs d_both d_single d_told d_places d_left d_right d_text d_dots d_texts d_grows d_keeps d_k d_unlike d_numbers d_script) (.Name (Str.ofString "other") pos) d_other := EvE.nm lk_other hk dbg_other
theorem kn_other : KindS (fScope (stm 12)) (Str.ofString "other") := by decide +kernel
theorem lk_size {d_row d_other d_size d_head d_tail d_first d_wide d_mine d_theirs d_lost d_grown d_one d_two d_owner d_guest d_signs d_both d_single d_told d_places d_left d_right d_text d_dots d_texts d_grows d_keeps d_k d_unlike d_numbers d_script : D} : Look (Str.ofString "size") (lw d_row d_other d_size d_head d_tail d_first d_wide d_mine d_theirs d_lost d_grown d_one d_two d_owner d_guest d_signs d_both d_single d_told d_places d_left d_right d_text d_dots d_texts d_grows d_keeps d_k d_unlike d_numbers d_script) d_size := .there (.there .here)
theorem st_size {d_row d_other d_size d_head d_tail d_first d_wide d_mine d_theirs d_lost d_grown d_one d_two d_owner d_guest d_signs d_both d_single d_told d_places d_left d_right d_text d_dots d_texts d_grows d_keeps d_k d_unlike d_numbers d_script : D} {d : D} : Set1 (Str.ofString "size") d (lw d_row d_other d_size d_head d_tail d_first d_wide d_mine d_theirs d_lost d_grown d_one d_two d_owner d_guest d_signs d_both d_single d_told d_places d_left d_right d_text d_dots d_texts d_grows d_keeps d_k d_unlike d_numbers d_script) (lw d_row d_other d d_head d_tail d_first d_wide d_mine d_theirs d_lost d_grown d_one d_two d_owner d_guest d_signs d_both d_single d_told d_places d_left d_right d_text d_dots d_texts d_grows d_keeps d_k d_unlike d_numbers d_script) := .there (.there .here)
theorem dbg_size : dbg (Str.ofString "size") = false := by decide +kernel
theorem nm_size {d_row d_other d_size d_head d_tail d_first d_wide d_mine d_theirs d_lost d_grown d_one d_two d_owner d_guest d_signs d_both d_single d_told d_places d_left d_right d_text d_dots d_texts d_grows d_keeps d_k d_unlike d_numbers d_script : D} {pos : Pos} (hk : d_size.ok = true) : EvE prog w h₁ n sc (lw d_row d_other d_size d_head d_tail d_first d_wide d_mine d_theirs d_lost d_grown d_one d_two d_owner d_guest d_signs d_both d_single d_told d_places d_left d_right d_text d_dots d_texts d_grows d_keeps d_k d_unlike d_numbers d_script) (.Name (Str.ofString "size") pos) d_size := EvE.nm lk_size hk dbg_size
theorem kn_size : KindS (fScope (stm 12)) (Str.ofString "size") := by decide +kernel
theorem lk_head {d_row d_other d_size d_head d_tail d_first d_wide d_mine d_theirs d_lost d_grown d_one d_two d_owner d_guest d_signs d_both d_single d_told d_places d_left d_right d_text d_dots d_texts d_grows d_keeps d_k d_unlike d_numbers d_script : D} : Look (Str.ofString "head") (lw d_row d_other d_size d_head d_tail d_first d_wide d_mine d_theirs d_lost d_grown d_one d_two d_owner d_guest d_signs d_both d_single d_told d_places d_left d_right d_text d_dots d_texts d_grows d_keeps d_k d_unlike d_numbers d_script) d_head := .there (.there (.there .here))
theorem st_head {d_row d_other d_size d_head d_tail d_first d_wide d_mine d_theirs d_lost d_grown d_one d_two d_owner d_guest d_signs d_both d_single d_told d_places d_left d_right d_text d_dots d_texts d_grows d_keeps d_k d_unlike d_numbers d_script : D} {d : D} : Set1 (Str.ofString "head") d (lw d_row d_other d_size d_head d_tail d_first d_wide d_mine d_theirs d_lost d_grown d_one d_two d_owner d_guest d_signs d_both d_single d_told d_places d_left d_right d_text d_dots d_texts d_grows d_keeps d_k d_unlike d_numbers d_script) (lw d_row d_other d_size d d_tail d_first d_wide d_mine d_theirs d_lost d_grown d_one d_two d_owner d_guest d_signs d_both d_single d_told d_places d_left d_right d_text d_dots d_texts d_grows d_keeps d_k d_unlike d_numbers d_script) := .there (.there (.there .here))
theorem dbg_head : dbg (Str.ofString "head") = false := by decide +kernel
theorem nm_head {d_row d_other d_size d_head d_tail d_first d_wide d_mine d_theirs d_lost d_grown d_one d_two d_owner d_guest d_signs d_both d_single d_told d_places d_left d_right d_text d_dots d_texts d_grows d_keeps d_k d_unlike d_numbers d_script : D} {pos : Pos} (hk : d_head.ok = true) : EvE prog w h₁ n sc (lw d_row d_other d_size d_head d_tail d_first d_wide d_mine d_theirs d_lost d_grown d_one d_two d_owner d_guest d_signs d_both d_single d_told d_places d_left d_right d_text d_dots d_texts d_grows d_keeps d_k d_unlike d_numbers d_script) (.Name (Str.ofString "head") pos) d_head := EvE.nm lk_head hk dbg_head
theorem kn_head : KindS (fScope (stm 12)) (Str.ofString "head") := by decide +kernel
theorem lk_tail {d_row d_other d_size d_head d_tail d_first d_wide d_mine d_theirs d_lost d_grown d_one d_two d_owner d_guest d_signs d_both d_single d_told d_places d_left d_right d_text d_dots d_texts d_grows d_keeps d_k d_unlike d_numbers d_script : D} : Look (Str.ofString "tail") (lw d_row d_other d_size d_head d_tail d_first d_wide d_mine d_theirs d_lost d_grown d_one d_two d_owner d_guest d_signs d_both d_single d_told d_places d_left d_right d_text d_dots d_texts d_grows d_keeps d_k d_unlike d_numbers d_script) d_tail := .there (.there (.there (.there .here)))
theorem st_tail {d_row d_other d_size d_head d_tail d_first d_wide d_mine d_theirs d_lost d_grown d_one d_two d_owner d_guest d_signs d_both d_single d_told d_places d_left d_right d_text d_dots d_texts d_grows d_keeps d_k d_unlike d_numbers d_script : D} {d : D} : Set1 (Str.ofString "tail") d (lw d_row d_other d_size d_head d_tail d_first d_wide d_mine d_theirs d_lost d_grown d_one d_two d_owner d_guest d_signs d_both d_single d_told d_places d_left d_right d_text d_dots d_texts d_grows d_keeps d_k d_unlike d_numbers d_script) (lw d_row d_other d_size d_head d d_first d_wide d_mine d_theirs d_lost d_grown d_one d_two d_owner d_guest d_signs d_both d_single d_told d_places d_left d_right d_text d_dots d_texts d_grows d_keeps d_k d_unlike d_numbers d_script) := .there (.there (.there (.there .here)))
theorem dbg_tail : dbg (Str.ofString "tail") = false := by decide +kernel
theorem nm_tail {d_row d_other d_size d_head d_tail d_first d_wide d_mine d_theirs d_lost d_grown d_one d_two d_owner d_guest d_signs d_both d_single d_told d_places d_left d_right d_text d_dots d_texts d_grows d_keeps d_k d_unlike d_numbers d_script : D} {pos : Pos} (hk : d_tail.ok = true) : EvE prog w h₁ n sc (lw d_row d_other d_size d_head d_tail d_first d_wide d_mine d_theirs d_lost d_grown d_one d_two d_owner d_guest d_signs d_both d_single d_told d_places d_left d_right d_text d_dots d_texts d_grows d_keeps d_k d_unlike d_numbers d_script) (.Name (Str.ofString "tail") pos) d_tail := EvE.nm lk_tail hk dbg_tail
theorem kn_tail : KindS (fScope (stm 12)) (Str.ofString "tail") := by decide +kernel
theorem lk_first {d_row d_other d_size d_head d_tail d_first d_wide d_mine d_theirs d_lost d_grown d_one d_two d_owner d_guest d_signs d_both d_single d_told d_places d_left d_right d_text d_dots d_texts d_grows d_keeps d_k d_unlike d_numbers d_script : D} : Look (Str.ofString "first") (lw d_row d_other d_size d_head d_tail d_first d_wide d_mine d_theirs d_lost d_grown d_one d_two d_owner d_guest d_signs d_both d_single d_told d_places d_left d_right d_text d_dots d_texts d_grows d_keeps d_k d_unlike d_numbers d_script) d_first := .there (.there (.there (.there (.there .here))))
theorem st_first {d_row d_other d_size d_head d_tail d_first d_wide d_mine d_theirs d_lost d_grown d_one d_two d_owner d_guest d_signs d_both d_single d_told d_places d_left d_right d_text d_dots d_texts d_grows d_keeps d_k d_unlike d_numbers d_script : D} {d : D} : Set1 (Str.ofString "first") d (lw d_row d_other d_size d_head d_tail d_first d_wide d_mine d_theirs d_lost d_grown d_one d_two d_owner d_guest d_signs d_both d_single d_told d_places d_left d_right d_text d_dots d_texts d_grows d_keeps d_k d_unlike d_numbers d_script) (lw d_row d_other d_size d_head d_tail d d_wide d_mine d_theirs d_lost d_grown d_one d_two d_owner d_guest d_signs d_both d_single d_told d_places d_left d_right d_text d_dots d_texts d_grows d_keeps d_k d_unlike d_numbers d_script) := .there (.there (.there (.there (.there .here))))
theorem dbg_first : dbg (Str.ofString "first") = false := by decide +kernel
theorem nm_first {d_row d_other d_size d_head d_tail d_first d_wide d_mine d_theirs d_lost d_grown d_one d_two d_owner d_guest d_signs d_both d_single d_told d_places d_left d_right d_text d_dots d_texts d_grows d_keeps d_k d_unlike d_numbers d_script : D} {pos : Pos} (hk : d_first.ok = true) : EvE prog w h₁ n sc (lw d_row d_other d_size d_head d_tail d_first d_wide d_mine d_theirs d_lost d_grown d_one d_two d_owner d_guest d_signs d_both d_single d_told d_places d_left d_right d_text d_dots d_texts d_grows d_keeps d_k d_unlike d_numbers d_script) (.Name (Str.ofString "first") pos) d_first := EvE.nm lk_first hk dbg_first
theorem kn_first : KindS (fScope (stm 12)) (Str.ofString "first") := by decide +kernel
theorem lk_wide {d_row d_other d_size d_head d_tail d_first d_wide d_mine d_theirs d_lost d_grown d_one d_two d_owner d_guest d_signs d_both d_single d_told d_places d_left d_right d_text d_dots d_texts d_grows d_keeps d_k d_unlike d_numbers d_script : D} : Look (Str.ofString "wide") (lw d_row d_other d_size d_head d_tail d_first d_wide d_mine d_theirs d_lost d_grown d_one d_two d_owner d_guest d_signs d_both d_single d_told d_places d_left d_right d_text d_dots d_texts d_grows d_keeps d_k d_unlike d_numbers d_script) d_wide := .there (.there (.there (.there (.there (.there .here)))))
theorem st_wide {d_row d_other d_size d_head d_tail d_first d_wide d_mine d_theirs d_lost d_grown d_one d_two d_owner d_guest d_signs d_both d_single d_told d_places d_left d_right d_text d_dots d_texts d_grows d_keeps d_k d_unlike d_numbers d_script : D} {d : D} : Set1 (Str.ofString "wide") d (lw d_row d_other d_size d_head d_tail d_first d_wide d_mine d_theirs d_lost d_grown d_one d_two d_owner d_guest d_signs d_both d_single d_told d_places d_left d_right d_text d_dots d_texts d_grows d_keeps d_k d_unlike d_numbers d_script) (lw d_row d_other d_size d_head d_tail d_first d d_mine d_theirs d_lost d_grown d_one d_two d_owner d_guest d_signs d_both d_single d_told d_places d_left d_right d_text d_dots d_texts d_grows d_keeps d_k d_unlike d_numbers d_script) := .there (.there (.there (.there (.there (.there .here)))))
theorem dbg_wide : dbg (Str.ofString "wide") = false := by decide +kernel
theorem nm_wide {d_row d_other d_size d_head d_tail d_first d_wide d_mine d_theirs d_lost d_grown d_one d_two d_owner d_guest d_signs d_both d_single d_told d_places d_left d_right d_text d_dots d_texts d_grows d_keeps d_k d_unlike d_numbers d_script : D} {pos : Pos} (hk : d_wide.ok = true) : EvE prog w h₁ n sc (lw d_row d_other d_size d_head d_tail d_first d_wide d_mine d_theirs d_lost d_grown d_one d_two d_owner d_guest d_signs d_both d_single d_told d_places d_left d_right d_text d_dots d_texts d_grows d_keeps d_k d_unlike d_numbers d_script) (.Name (Str.ofString "wide") pos) d_wide := EvE.nm lk_wide hk dbg_wide
theorem kn_wide : KindS (fScope (stm 12)) (Str.ofString "wide") := by decide +kernel
theorem lk_mine {d_row d_other d_size d_head d_tail d_first d_wide d_mine d_theirs d_lost d_grown d_one d_two d_owner d_guest d_signs d_both d_single d_told d_places d_left d_right d_text d_dots d_texts d_grows d_keeps d_k d_unlike d_numbers d_script : D} : Look (Str.ofString "mine") (lw d_row d_other d_size d_head d_tail d_first d_wide d_mine d_theirs d_lost d_grown d_one d_two d_owner d_guest d_signs d_both d_single d_told d_places d_left d_right d_text d_dots d_texts d_grows d_keeps d_k d_unlike d_numbers d_script) d_mine := .there (.there (.there (.there (.there (.there (.there .here))))))
theorem st_mine {d_row d_other d_size d_head d_tail d_first d_wide d_mine d_theirs d_lost d_grown d_one d_two d_owner d_guest d_signs d_both d_single d_told d_places d_left d_right d_text d_dots d_texts d_grows d_keeps d_k d_unlike d_numbers d_script : D} {d : D} : Set1 (Str.ofString "mine") d (lw d_row d_other d_size d_head d_tail d_first d_wide d_mine d_theirs d_lost d_grown d_one d_two d_owner d_guest d_signs d_both d_single d_told d_places d_left d_right d_text d_dots d_texts d_grows d_keeps d_k d_unlike d_numbers d_script) (lw d_row d_other d_size d_head d_tail d_first d_wide d d_theirs d_lost d_grown d_one d_two d_owner d_guest d_signs d_both d_single d_told d_places d_left d_right d_text d_dots d_texts d_grows d_keeps d_k d_unlike d_numbers d_script) := .there (.there (.there (.there (.there (.there (.there .here))))))
theorem dbg_mine : dbg (Str.ofString "mine") = false := by decide +kernel
theorem nm_mine {d_row d_other d_size d_head d_tail d_first d_wide d_mine d_theirs d_lost d_grown d_one d_two d_owner d_guest d_signs d_both d_single d_told d_places d_left d_right d_text d_dots d_texts d_grows d_keeps d_k d_unlike d_numbers d_script : D} {pos : Pos} (hk : d_mine.ok = true) : EvE prog w h₁ n sc (lw d_row d_other d_size d_head d_tail d_first d_wide d_mine d_theirs d_lost d_grown d_one d_two d_owner d_guest d_signs d_both d_single d_told d_places d_left d_right d_text d_dots d_texts d_grows d_keeps d_k d_unlike d_numbers d_script) (.Name (Str.ofString "mine") pos) d_mine := EvE.nm lk_mine hk dbg_mine
theorem kn_mine : KindS (fScope (stm 12)) (Str.ofString "mine") := by decide +kernel
theorem lk_theirs {d_row d_other d_size d_head d_tail d_first d_wide d_mine d_theirs d_lost d_grown d_one d_two d_owner d_guest d_signs d_both d_single d_told d_places d_left d_right d_text d_dots d_texts d_grows d_keeps d_k d_unlike d_numbers d_script : D} : Look (Str.ofString "theirs") (lw d_row d_other d_size d_head d_tail d_first d_wide d_mine d_theirs d_lost d_grown d_one d_two d_owner d_guest d_signs d_both d_single d_told d_places d_left d_right d_text d_dots d_texts d_grows d_keeps d_k d_unlike d_numbers d_script) d_theirs := .there (.there (.there (.there (.there (.there (.there (.there .here)))))))
theorem st_theirs {d_row d_other d_size d_head d_tail d_first d_wide d_mine d_theirs d_lost d_grown d_one d_two d_owner d_guest d_signs d_both d_single d_told d_places d_left d_right d_text d_dots d_texts d_grows d_keeps d_k d_unlike d_numbers d_script : D} {d : D} : Set1 (Str.ofString "theirs") d (lw d_row d_other d_size d_head d_tail d_first d_wide d_mine d_theirs d_lost d_grown d_one d_two d_owner d_guest d_signs d_both d_single d_told d_places d_left d_right d_text d_dots d_texts d_grows d_keeps d_k d_unlike d_numbers d_script) (lw d_row d_other d_size d_head d_tail d_first d_wide d_mine d d_lost d_grown d_one d_two d_owner d_guest d_signs d_both d_single d_told d_places d_left d_right d_text d_dots d_texts d_grows d_keeps d_k d_unlike d_numbers d_script) := .there (.there (.there (.there (.there (.there (.there (.there .here)))))))
theorem dbg_theirs : dbg (Str.ofString "theirs") = false := by decide +kernel
theorem nm_theirs {d_row d_other d_size d_head d_tail d_first d_wide d_mine d_theirs d_lost d_grown d_one d_two d_owner d_guest d_signs d_both d_single d_told d_places d_left d_right d_text d_dots d_texts d_grows d_keeps d_k d_unlike d_numbers d_script : D} {pos : Pos} (hk : d_theirs.ok = true) : EvE prog w h₁ n sc (lw d_row d_other d_size d_head d_tail d_first d_wide d_mine d_theirs d_lost d_grown d_one d_two d_owner d_guest d_signs d_both d_single d_told d_places d_left d_right d_text d_dots d_texts d_grows d_keeps d_k d_unlike d_numbers d_script) (.Name (Str.ofString "theirs") pos) d_theirs := EvE.nm lk_theirs hk dbg_theirs
theorem kn_theirs : KindS (fScope (stm 12)) (Str.ofString "theirs") := by decide +kernel
theorem lk_lost {d_row d_other d_size d_head d_tail d_first d_wide d_mine d_theirs d_lost d_grown d_one d_two d_owner d_guest d_signs d_both d_single d_told d_places d_left d_right d_text d_dots d_texts d_grows d_keeps d_k d_unlike d_numbers d_script : D} : Look (Str.ofString "lost") (lw d_row d_other d_size d_head d_tail d_first d_wide d_mine d_theirs d_lost d_grown d_one d_two d_owner d_guest d_signs d_both d_single d_told d_places d_left d_right d_text d_dots d_texts d_grows d_keeps d_k d_unlike d_numbers d_script) d_lost := .there (.there (.there (.there (.there (.there (.there (.there (.there .here))))))))
theorem st_lost {d_row d_other d_size d_head d_tail d_first d_wide d_mine d_theirs d_lost d_grown d_one d_two d_owner d_guest d_signs d_both d_single d_told d_places d_left d_right d_text d_dots d_texts d_grows d_keeps d_k d_unlike d_numbers d_script : D} {d : D} : Set1 (Str.ofString "lost") d (lw d_row d_other d_size d_head d_tail d_first d_wide d_mine d_theirs d_lost d_grown d_one d_two d_owner d_guest d_signs d_both d_single d_told d_places d_left d_right d_text d_dots d_texts d_grows d_keeps d_k d_unlike d_numbers d_script) (lw d_row d_other d_size d_head d_tail d_first d_wide d_mine d_theirs d d_grown d_one d_two d_owner d_guest d_signs d_both d_single d_told d_places d_left d_right d_text d_dots d_texts d_grows d_keeps d_k d_unlike d_numbers d_script) := .there (.there (.there (.there (.there (.there (.there (.there (.there .here))))))))
theorem dbg_lost : dbg (Str.ofString "lost") = false := by decide +kernel
theorem nm_lost {d_row d_other d_size d_head d_tail d_first d_wide d_mine d_theirs d_lost d_grown d_one d_two d_owner d_guest d_signs d_both d_single d_told d_places d_left d_right d_text d_dots d_texts d_grows d_keeps d_k d_unlike d_numbers d_script : D} {pos : Pos} (hk : d_lost.ok = true) : EvE prog w h₁ n sc (lw d_row d_other d_size d_head d_tail d_first d_wide d_mine d_theirs d_lost d_grown d_one d_two d_owner d_guest d_signs d_both d_single d_told d_places d_left d_right d_text d_dots d_texts d_grows d_keeps d_k d_unlike d_numbers d_script) (.Name (Str.ofString "lost") pos) d_lost := EvE.nm lk_lost hk dbg_lost
theorem kn_lost : KindS (fScope (stm 12)) (Str.ofString "lost") := by decide +kernel
theorem lk_grown {d_row d_other d_size d_head d_tail d_first d_wide d_mine d_theirs d_lost d_grown d_one d_two d_owner d_guest d_signs d_both d_single d_told d_places d_left d_right d_text d_dots d_texts d_grows d_keeps d_k d_unlike d_numbers d_script : D} : Look (Str.ofString "grown") (lw d_row d_other d_size d_head d_tail d_first d_wide d_mine d_theirs d_lost d_grown d_one d_two d_owner d_guest d_signs d_both d_single d_told d_places d_left d_right d_text d_dots d_texts d_grows d_keeps d_k d_unlike d_numbers d_script) d_grown := .there (.there (.there (.there (.there (.there (.there (.there (.there (.there .here)))))))))
theorem st_grown {d_row d_other d_size d_head d_tail d_first d_wide d_mine d_theirs d_lost d_grown d_one d_two d_owner d_guest d_signs d_both d_single d_told d_places d_left d_right d_text d_dots d_texts d_grows d_keeps d_k d_unlike d_numbers d_script : D} {d : D} : Set1 (Str.ofString "grown") d (lw d_row d_other d_size d_head d_tail d_first d_wide d_mine d_theirs d_lost d_grown d_one d_two d_owner d_guest d_signs d_both d_single d_told d_places d_left d_right d_text d_dots d_texts d_grows d_keeps d_k d_unlike d_numbers d_script) (lw d_row d_other d_size d_head d_tail d_first d_wide d_mine d_theirs d_lost d d_one d_two d_owner d_guest d_signs d_both d_single d_told d_places d_left d_right d_text d_dots d_texts d_grows d_keeps d_k d_unlike d_numbers d_script) := .there (.there (.there (.there (.there (.there (.there (.there (.there (.there .here)))))))))
theorem dbg_grown : dbg (Str.ofString "grown") = false := by decide +kernel
theorem nm_grown {d_row d_other d_size d_head d_tail d_first d_wide d_mine d_theirs d_lost d_grown d_one d_two d_owner d_guest d_signs d_both d_single d_told d_places d_left d_right d_text d_dots d_texts d_grows d_keeps d_k d_unlike d_numbers d_script : D} {pos : Pos} (hk : d_grown.ok = true) : EvE prog w h₁ n sc (lw d_row d_other d_size d_head d_tail d_first d_wide d_mine d_theirs d_lost d_grown d_one d_two d_owner d_guest d_signs d_both d_single d_told d_places d_left d_right d_text d_dots d_texts d_grows d_keeps d_k d_unlike d_numbers d_script) (.Name (Str.ofString "grown") pos) d_grown := EvE.nm lk_grown hk dbg_grown
theorem kn_grown : KindS (fScope (stm 12)) (Str.ofString "grown") := by decide +kernel
theorem lk_one {d_row d_other d_size d_head d_tail d_first d_wide d_mine d_theirs d_lost d_grown d_one d_two d_owner d_guest d_signs d_both d_single d_told d_places d_left d_right d_text d_dots d_texts d_grows d_keeps d_k d_unlike d_numbers d_script : D} : Look (Str.ofString "one") (lw d_row d_other d_size d_head d_tail d_first d_wide d_mine d_theirs d_lost d_grown d_one d_two d_owner d_guest d_signs d_both d_single d_told d_places d_left d_right d_text d_dots d_texts d_grows d_keeps d_k d_unlike d_numbers d_script) d_one := .there (.there (.there (.there (.there (.there (.there (.there (.there (.there (.there .here))))))))))
theorem st_one {d_row d_other d_size d_head d_tail d_first d_wide d_mine d_theirs d_lost d_grown d_one d_two d_owner d_guest d_signs d_both d_single d_told d_places d_left d_right d_text d_dots d_texts d_grows d_keeps d_k d_unlike d_numbers d_script : D} {d : D} : Set1 (Str.ofString "one") d (lw d_row d_other d_size d_head d_tail d_first d_wide d_mine d_theirs d_lost d_grown d_one d_two d_owner d_guest d_signs d_both d_single d_told d_places d_left d_right d_text d_dots d_texts d_grows d_keeps d_k d_unlike d_numbers d_script) (lw d_row d_other d_size d_head d_tail d_first d_wide d_mine d_theirs d_lost d_grown d d_two d_owner d_guest d_signs d_both d_single d_told d_places d_left d_right d_text d_dots d_texts d_grows d_keeps d_k d_unlike d_numbers d_script) := .there (.there (.there (.there (.there (.there (.there (.there (.there (.there (.there .here))))))))))
theorem dbg_one : dbg (Str.ofString "one") = false := by decide +kernel
theorem nm_one {d_row d_other d_size d_head d_tail d_first d_wide d_mine d_theirs d_lost d_grown d_one d_two d_owner d_guest d_signs d_both d_single d_told d_places d_left d_right d_text d_dots d_texts d_grows d_keeps d_k d_unlike d_numbers d_script : D} {pos : Pos} (hk : d_one.ok = true) : EvE prog w h₁ n sc (lw d_row d_other d_size d_head d_tail d_first d_wide d_mine d_theirs d_lost d_grown d_one d_two d_owner d_guest d_signs d_both d_single d_told d_places d_left d_right d_text d_dots d_texts d_grows d_keeps d_k d_unlike d_numbers d_script) (.Name (Str.ofString "one") pos) d_one := EvE.nm lk_one hk dbg_one
theorem lk_two {d_row d_other d_size d_head d_tail d_first d_wide d_mine d_theirs d_lost d_grown d_one d_two d_owner d_guest d_signs d_both d_single d_told d_places d_left d_right d_text d_dots d_texts d_grows d_keeps d_k d_unlike d_numbers d_script : D} : Look (Str.ofString "two") (lw d_row d_other d_size d_head d_tail d_first d_wide d_mine d_theirs d_lost d_grown d_one d_two d_owner d_guest d_signs d_both d_single d_told d_places d_left d_right d_text d_dots d_texts d_grows d_keeps d_k d_unlike d_numbers d_script) d_two := .there (.there (.there (.there (.there (.there (.there (.there (.there (.there (.there (.there .here)))))))))))
theorem st_two {d_row d_other d_size d_head d_tail d_first d_wide d_mine d_theirs d_lost d_grown d_one d_two d_owner d_guest d_signs d_both d_single d_told d_places d_left d_right d_text d_dots d_texts d_grows d_keeps d_k d_unlike d_numbers d_script : D} {d : D} : Set1 (Str.ofString "two") d (lw d_row d_other d_size d_head d_tail d_first d_wide d_mine d_theirs d_lost d_grown d_one d_two d_owner d_guest d_signs d_both d_single d_told d_places d_left d_right d_text d_dots d_texts d_grows d_keeps d_k d_unlike d_numbers d_script) (lw d_row d_other d_size d_head d_tail d_first d_wide d_mine d_theirs d_lost d_grown d_one d d_owner d_guest d_signs d_both d_single d_told d_places d_left d_right d_text d_dots d_texts d_grows d_keeps d_k d_unlike d_numbers d_script) := .there (.there (.there (.there (.there (.there (.there (.there (.there (.there (.there (.there .here)))))))))))
theorem dbg_two : dbg (Str.ofString "two") = false := by decide +kernel
theorem nm_two {d_row d_other d_size d_head d_tail d_first d_wide d_mine d_theirs d_lost d_grown d_one d_two d_owner d_guest d_signs d_both d_single d_told d_places d_left d_right d_text d_dots d_texts d_grows d_keeps d_k d_unlike d_numbers d_script : D} {pos : Pos} (hk : d_two.ok = true) : EvE prog w h₁ n sc (lw d_row d_other d_size d_head d_tail d_first d_wide d_mine d_theirs d_lost d_grown d_one d_two d_owner d_guest d_signs d_both d_single d_told d_places d_left d_right d_text d_dots d_texts d_grows d_keeps d_k d_unlike d_numbers d_script) (.Name (Str.ofString "two") pos) d_two := EvE.nm lk_two hk dbg_two
theorem lk_owner {d_row d_other d_size d_head d_tail d_first d_wide d_mine d_theirs d_lost d_grown d_one d_two d_owner d_guest d_signs d_both d_single d_told d_places d_left d_right d_text d_dots d_texts d_grows d_keeps d_k d_unlike d_numbers d_script : D} : Look (Str.ofString "owner") (lw d_row d_other d_size d_head d_tail d_first d_wide d_mine d_theirs d_lost d_grown d_one d_two d_owner d_guest d_signs d_both d_single d_told d_places d_left d_right d_text d_dots d_texts d_grows d_keeps d_k d_unlike d_numbers d_script) d_owner := .there (.there (.there (.there (.there (.there (.there (.there (.there (.there (.there (.there (.there .here))))))))))))
theorem st_owner {d_row d_other d_size d_head d_tail d_first d_wide d_mine d_theirs d_lost d_grown d_one d_two d_owner d_guest d_signs d_both d_single d_told d_places d_left d_right d_text d_dots d_texts d_grows d_keeps d_k d_unlike d_numbers d_script : D} {d : D} : Set1 (Str.ofString "owner") d (lw d_row d_other d_size d_head d_tail d_first d_wide d_mine d_theirs d_lost d_grown d_one d_two d_owner d_guest d_signs d_both d_single d_told d_places d_left d_right d_text d_dots d_texts d_grows d_keeps d_k d_unlike d_numbers d_script) (lw d_row d_other d_size d_head d_tail d_first d_wide d_mine d_theirs d_lost d_grown d_one d_two d d_guest d_signs d_both d_single d_told d_places d_left d_right d_text d_dots d_texts d_grows d_keeps d_k d_unlike d_numbers d_script) := .there (.there (.there (.there (.there (.there (.there (.there (.there (.there (.there (.there (.there .here))))))))))))
theorem dbg_owner : dbg (Str.ofString "owner") = false := by decide +kernel
theorem nm_owner {d_row d_other d_size d_head d_tail d_first d_wide d_mine d_theirs d_lost d_grown d_one d_two d_owner d_guest d_signs d_both d_single d_told d_places d_left d_right d_text d_dots d_texts d_grows d_keeps d_k d_unlike d_numbers d_script : D} {pos : Pos} (hk : d_owner.ok = true) : EvE prog w h₁ n sc (lw d_row d_other d_size d_head d_tail d_first d_wide d_mine d_theirs d_lost d_grown d_one d_two d_owner d_guest d_signs d_both d_single d_told d_places d_left d_right d_text d_dots d_texts d_grows d_keeps d_k d_unlike d_numbers d_script) (.Name (Str.ofString "owner") pos) d_owner := EvE.nm lk_owner hk dbg_owner
theorem lk_guest {d_row d_other d_size d_head d_tail d_first d_wide d_mine d_theirs d_lost d_grown d_one d_two d_owner d_guest d_signs d_both d_single d_told d_places d_left d_right d_text d_dots d_texts d_grows d_keeps d_k d_unlike d_numbers d_script : D} : Look (Str.ofString "guest") (lw d_row d_other d_size d_head d_tail d_first d_wide d_mine d_theirs d_lost d_grown d_one d_two d_owner d_guest d_signs d_both d_single d_told d_places d_left d_right d_text d_dots d_texts d_grows d_keeps d_k d_unlike d_numbers d_script) d_guest := .there (.there (.there (.there (.there (.there (.there (.there (.there (.there (.there (.there (.there (.there .here)))))))))))))
theorem st_guest {d_row d_other d_size d_head d_tail d_first d_wide d_mine d_theirs d_lost d_grown d_one d_two d_owner d_guest d_signs d_both d_single d_told d_places d_left d_right d_text d_dots d_texts d_grows d_keeps d_k d_unlike d_numbers d_script : D} {d : D} : Set1 (Str.ofString "guest") d (lw d_row d_other d_size d_head d_tail d_first d_wide d_mine d_theirs d_lost d_grown d_one d_two d_owner d_guest d_signs d_both d_single d_told d_places d_left d_right d_text d_dots d_texts d_grows d_keeps d_k d_unlike d_numbers d_script) (lw d_row d_other d_size d_head d_tail d_first d_wide d_mine d_theirs d_lost d_grown d_one d_two d_owner d d_signs d_both d_single d_told d_places d_left d_right d_text d_dots d_texts d_grows d_keeps d_k d_unlike d_numbers d_script) := .there (.there (.there (.there (.there (.there (.there (.there (.there (.there (.there (.there (.there (.there .here)))))))))))))
theorem dbg_guest : dbg (Str.ofString "guest") = false := by decide +kernel
theorem nm_guest {d_row d_other d_size d_head d_tail d_first d_wide d_mine d_theirs d_lost d_grown d_one d_two d_owner d_guest d_signs d_both d_single d_told d_places d_left d_right d_text d_dots d_texts d_grows d_keeps d_k d_unlike d_numbers d_script : D} {pos : Pos} (hk : d_guest.ok = true) : EvE prog w h₁ n sc (lw d_row d_other d_size d_head d_tail d_first d_wide d_mine d_theirs d_lost d_grown d_one d_two d_owner d_guest d_signs d_both d_single d_told d_places d_left d_right d_text d_dots d_texts d_grows d_keeps d_k d_unlike d_numbers d_script) (.Name (Str.ofString "guest") pos) d_guest := EvE.nm lk_guest hk dbg_guest
theorem lk_signs {d_row d_other d_size d_head d_tail d_first d_wide d_mine d_theirs d_lost d_grown d_one d_two d_owner d_guest d_signs d_both d_single d_told d_places d_left d_right d_text d_dots d_texts d_grows d_keeps d_k d_unlike d_numbers d_script : D} : Look (Str.ofString "signs") (lw d_row d_other d_size d_head d_tail d_first d_wide d_mine d_theirs d_lost d_grown d_one d_two d_owner d_guest d_signs d_both d_single d_told d_places d_left d_right d_text d_dots d_texts d_grows d_keeps d_k d_unlike d_numbers d_script) d_signs := .there (.there (.there (.there (.there (.there (.there (.there (.there (.there (.there (.there (.there (.there (.there .here))))))))))))))
theorem st_signs {d_row d_other d_size d_head d_tail d_first d_wide d_mine d_theirs d_lost d_grown d_one d_two d_owner d_guest d_signs d_both d_single d_told d_places d_left d_right d_text d_dots d_texts d_grows d_keeps d_k d_unlike d_numbers d_script : D} {d : D} : Set1 (Str.ofString "signs") d (lw d_row d_other d_size d_head d_tail d_first d_wide d_mine d_theirs d_lost d_grown d_one d_two d_owner d_guest d_signs d_both d_single d_told d_places d_left d_right d_text d_dots d_texts d_grows d_keeps d_k d_unlike d_numbers d_script) (lw d_row d_other d_size d_head d_tail d_first d_wide d_mine d_theirs d_lost d_grown d_one d_two d_owner d_guest d d_both d_single d_told d_places d_left d_right d_text d_dots d_texts d_grows d_keeps d_k d_unlike d_numbers d_script) := .there (.there (.there (.there (.there (.there (.there (.there (.there (.there (.there (.there (.there (.there (.there .here))))))))))))))
theorem dbg_signs : dbg (Str.ofString "signs") = false := by decide +kernel
theorem nm_signs {d_row d_other d_size d_head d_tail d_first d_wide d_mine d_theirs d_lost d_grown d_one d_two d_owner d_guest d_signs d_both d_single d_told d_places d_left d_right d_text d_dots d_texts d_grows d_keeps d_k d_unlike d_numbers d_script : D} {pos : Pos} (hk : d_signs.ok = true) : EvE prog w h₁ n sc (lw d_row d_other d_size d_head d_tail d_first d_wide d_mine d_theirs d_lost d_grown d_one d_two d_owner d_guest d_signs d_both d_single d_told d_places d_left d_right d_text d_dots d_texts d_grows d_keeps d_k d_unlike d_numbers d_script) (.Name (Str.ofString "signs") pos) d_signs := EvE.nm lk_signs hk dbg_signs
theorem kn_signs : KindS (fScope (stm 12)) (Str.ofString "signs") := by decide +kernel
theorem lk_both {d_row d_other d_size d_head d_tail d_first d_wide d_mine d_theirs d_lost d_grown d_one d_two d_owner d_guest d_signs d_both d_single d_told d_places d_left d_right d_text d_dots d_texts d_grows d_keeps d_k d_unlike d_numbers d_script : D} : Look (Str.ofString "both") (lw d_row d_other d_size d_head d_tail d_first d_wide d_mine d_theirs d_lost d_grown d_one d_two d_owner d_guest d_signs d_both d_single d_told d_places d_left d_right d_text d_dots d_texts d_grows d_keeps d_k d_unlike d_numbers d_script) d_both := .there (.there (.there (.there (.there (.there (.there (.there (.there (.there (.there (.there (.there (.there (.there (.there .here)))))))))))))))
theorem st_both {d_row d_other d_size d_head d_tail d_first d_wide d_mine d_theirs d_lost d_grown d_one d_two d_owner d_guest d_signs d_both d_single d_told d_places d_left d_right d_text d_dots d_texts d_grows d_keeps d_k d_unlike d_numbers d_script : D} {d : D} : Set1 (Str.ofString "both") d (lw d_row d_other d_size d_head d_tail d_first d_wide d_mine d_theirs d_lost d_grown d_one d_two d_owner d_guest d_signs d_both d_single d_told d_places d_left d_right d_text d_dots d_texts d_grows d_keeps d_k d_unlike d_numbers d_script) (lw d_row d_other d_size d_head d_tail d_first d_wide d_mine d_theirs d_lost d_grown d_one d_two d_owner d_guest d_signs d d_single d_told d_places d_left d_right d_text d_dots d_texts d_grows d_keeps d_k d_unlike d_numbers d_script) := .there (.there (.there (.there (.there (.there (.there (.there (.there (.there (.there (.there (.there (.there (.there (.there .here)))))))))))))))
theorem dbg_both : dbg (Str.ofString "both") = false := by decide +kernel
theorem nm_both {d_row d_other d_size d_head d_tail d_first d_wide d_mine d_theirs d_lost d_grown d_one d_two d_owner d_guest d_signs d_both d_single d_told d_places d_left d_right d_text d_dots d_texts d_grows d_keeps d_k d_unlike d_numbers d_script : D} {pos : Pos} (hk : d_both.ok = true) : EvE prog w h₁ n sc (lw d_row d_other d_size d_head d_tail d_first d_wide d_mine d_theirs d_lost d_grown d_one d_two d_owner d_guest d_signs d_both d_single d_told d_places d_left d_right d_text d_dots d_texts d_grows d_keeps d_k d_unlike d_numbers d_script) (.Name (Str.ofString "both") pos) d_both := EvE.nm lk_both hk dbg_both
theorem kn_both : KindS (fScope (stm 12)) (Str.ofString "both") := by decide +kernel
theorem lk_single {d_row d_other d_size d_head d_tail d_first d_wide d_mine d_theirs d_lost d_grown d_one d_two d_owner d_guest d_signs d_both d_single d_told d_places d_left d_right d_text d_dots d_texts d_grows d_keeps d_k d_unlike d_numbers d_script : D} : Look (Str.ofString "single") (lw d_row d_other d_size d_head d_tail d_first d_wide d_mine d_theirs d_lost d_grown d_one d_two d_owner d_guest d_signs d_both d_single d_told d_places d_left d_right d_text d_dots d_texts d_grows d_keeps d_k d_unlike d_numbers d_script) d_single := .there (.there (.there (.there (.there (.there (.there (.there (.there (.there (.there (.there (.there (.there (.there (.there (.there .here))))))))))))))))
theorem st_single {d_row d_other d_size d_head d_tail d_first d_wide d_mine d_theirs d_lost d_grown d_one d_two d_owner d_guest d_signs d_both d_single d_told d_places d_left d_right d_text d_dots d_texts d_grows d_keeps d_k d_unlike d_numbers d_script : D} {d : D} : Set1 (Str.ofString "single") d (lw d_row d_other d_size d_head d_tail d_first d_wide d_mine d_theirs d_lost d_grown d_one d_two d_owner d_guest d_signs d_both d_single d_told d_places d_left d_right d_text d_dots d_texts d_grows d_keeps d_k d_unlike d_numbers d_script) (lw d_row d_other d_size d_head d_tail d_first d_wide d_mine d_theirs d_lost d_grown d_one d_two d_owner d_guest d_signs d_both d d_told d_places d_left d_right d_text d_dots d_texts d_grows d_keeps d_k d_unlike d_numbers d_script) := .there (.there (.there (.there (.there (.there (.there (.there (.there (.there (.there (.there (.there (.there (.there (.there (.there .here))))))))))))))))
theorem dbg_single : dbg (Str.ofString "single") = false := by decide +kernel
theorem nm_single {d_row d_other d_size d_head d_tail d_first d_wide d_mine d_theirs d_lost d_grown d_one d_two d_owner d_guest d_signs d_both d_single d_told d_places d_left d_right d_text d_dots d_texts d_grows d_keeps d_k d_unlike d_numbers d_script : D} {pos : Pos} (hk : d_single.ok = true) : EvE prog w h₁ n sc (lw d_row d_other d_size d_head d_tail d_first d_wide d_mine d_theirs d_lost d_grown d_one d_two d_owner d_guest d_signs d_both d_single d_told d_places d_left d_right d_text d_dots d_texts d_grows d_keeps d_k d_unlike d_numbers d_script) (.Name (Str.ofString "single") pos) d_single := EvE.nm lk_single hk dbg_single
theorem lk_told {d_row d_other d_size d_head d_tail d_first d_wide d_mine d_theirs d_lost d_grown d_one d_two d_owner d_guest d_signs d_both d_single d_told d_places d_left d_right d_text d_dots d_texts d_grows d_keeps d_k d_unlike d_numbers d_script : D} : Look (Str.ofString "told") (lw d_row d_other d_size d_head d_tail d_first d_wide d_mine d_theirs d_lost d_grown d_one d_two d_owner d_guest d_signs d_both d_single d_told d_places d_left d_right d_text d_dots d_texts d_grows d_keeps d_k d_unlike d_numbers d_script) d_told := .there (.there (.there (.there (.there (.there (.there (.there (.there (.there (.there (.there (.there (.there (.there (.there (.there (.there .here)))))))))))))))))
theorem st_told {d_row d_other d_size d_head d_tail d_first d_wide d_mine d_theirs d_lost d_grown d_one d_two d_owner d_guest d_signs d_both d_single d_told d_places d_left d_right d_text d_dots d_texts d_grows d_keeps d_k d_unlike d_numbers d_script : D} {d : D} : Set1 (Str.ofString "told") d (lw d_row d_other d_size d_head d_tail d_first d_wide d_mine d_theirs d_lost d_grown d_one d_two d_owner d_guest d_signs d_both d_single d_told d_places d_left d_right d_text d_dots d_texts d_grows d_keeps d_k d_unlike d_numbers d_script) (lw d_row d_other d_size d_head d_tail d_first d_wide d_mine d_theirs d_lost d_grown d_one d_two d_owner d_guest d_signs d_both d_single d d_places d_left d_right d_text d_dots d_texts d_grows d_keeps d_k d_unlike d_numbers d_script) := .there (.there (.there (.there (.there (.there (.there (.there (.there (.there (.there (.there (.there (.there (.there (.there (.there (.there .here)))))))))))))))))
theorem dbg_told : dbg (Str.ofString "told") = false := by decide +kernel
theorem nm_told {d_row d_other d_size d_head d_tail d_first d_wide d_mine d_theirs d_lost d_grown d_one d_two d_owner d_guest d_signs d_both d_single d_told d_places d_left d_right d_text d_dots d_texts d_grows d_keeps d_k d_unlike d_numbers d_script : D} {pos : Pos} (hk : d_told.ok = true) : EvE prog w h₁ n sc (lw d_row d_other d_size d_head d_tail d_first d_wide d_mine d_theirs d_lost d_grown d_one d_two d_owner d_guest d_signs d_both d_single d_told d_places d_left d_right d_text d_dots d_texts d_grows d_keeps d_k d_unlike d_numbers d_script) (.Name (Str.ofString "told") pos) d_told := EvE.nm lk_told hk dbg_told
theorem kn_told : KindS (fScope (stm 12)) (Str.ofString "told") := by decide +kernel
theorem lk_places {d_row d_other d_size d_head d_tail d_first d_wide d_mine d_theirs d_lost d_grown d_one d_two d_owner d_guest d_signs d_both d_single d_told d_places d_left d_right d_text d_dots d_texts d_grows d_keeps d_k d_unlike d_numbers d_script : D} : Look (Str.ofString "places") (lw d_row d_other d_size d_head d_tail d_first d_wide d_mine d_theirs d_lost d_grown d_one d_two d_owner d_guest d_signs d_both d_single d_told d_places d_left d_right d_text d_dots d_texts d_grows d_keeps d_k d_unlike d_numbers d_script) d_places := .there (.there (.there (.there (.there (.there (.there (.there (.there (.there (.there (.there (.there (.there (.there (.there (.there (.there (.there .here))))))))))))))))))
theorem st_places {d_row d_other d_size d_head d_tail d_first d_wide d_mine d_theirs d_lost d_grown d_one d_two d_owner d_guest d_signs d_both d_single d_told d_places d_left d_right d_text d_dots d_texts d_grows d_keeps d_k d_unlike d_numbers d_script : D} {d : D} : Set1 (Str.ofString "places") d (lw d_row d_other d_size d_head d_tail d_first d_wide d_mine d_theirs d_lost d_grown d_one d_two d_owner d_guest d_signs d_both d_single d_told d_places d_left d_right d_text d_dots d_texts d_grows d_keeps d_k d_unlike d_numbers d_script) (lw d_row d_other d_size d_head d_tail d_first d_wide d_mine d_theirs d_lost d_grown d_one d_two d_owner d_guest d_signs d_both d_single d_told d d_left d_right d_text d_dots d_texts d_grows d_keeps d_k d_unlike d_numbers d_script) := .there (.there (.there (.there (.there (.there (.there (.there (.there (.there (.there (.there (.there (.there (.there (.there (.there (.there (.there .here))))))))))))))))))
theorem dbg_places : dbg (Str.ofString "places") = false := by decide +kernel
theorem nm_places {d_row d_other d_size d_head d_tail d_first d_wide d_mine d_theirs d_lost d_grown d_one d_two d_owner d_guest d_signs d_both d_single d_told d_places d_left d_right d_text d_dots d_texts d_grows d_keeps d_k d_unlike d_numbers d_script : D} {pos : Pos} (hk : d_places.ok = true) : EvE prog w h₁ n sc (lw d_row d_other d_size d_head d_tail d_first d_wide d_mine d_theirs d_lost d_grown d_one d_two d_owner d_guest d_signs d_both d_single d_told d_places d_left d_right d_text d_dots d_texts d_grows d_keeps d_k d_unlike d_numbers d_script) (.Name (Str.ofString "places") pos) d_places := EvE.nm lk_places hk dbg_places
theorem kn_places : KindS (fScope (stm 12)) (Str.ofString "places") := by decide +kernel
theorem lk_left {d_row d_other d_size d_head d_tail d_first d_wide d_mine d_theirs d_lost d_grown d_one d_two d_owner d_guest d_signs d_both d_single d_told d_places d_left d_right d_text d_dots d_texts d_grows d_keeps d_k d_unlike d_numbers d_script : D} : Look (Str.ofString "left") (lw d_row d_other d_size d_head d_tail d_first d_wide d_mine d_theirs d_lost d_grown d_one d_two d_owner d_guest d_signs d_both d_single d_told d_places d_left d_right d_text d_dots d_texts d_grows d_keeps d_k d_unlike d_numbers d_script) d_left := .there (.there (.there (.there (.there (.there (.there (.there (.there (.there (.there (.there (.there (.there (.there (.there (.there (.there (.there (.there .here)))))))))))))))))))
theorem st_left {d_row d_other d_size d_head d_tail d_first d_wide d_mine d_theirs d_lost d_grown d_one d_two d_owner d_guest d_signs d_both d_single d_told d_places d_left d_right d_text d_dots d_texts d_grows d_keeps d_k d_unlike d_numbers d_script : D} {d : D} : Set1 (Str.ofString "left") d (lw d_row d_other d_size d_head d_tail d_first d_wide d_mine d_theirs d_lost d_grown d_one d_two d_owner d_guest d_signs d_both d_single d_told d_places d_left d_right d_text d_dots d_texts d_grows d_keeps d_k d_unlike d_numbers d_script) (lw d_row d_other d_size d_head d_tail d_first d_wide d_mine d_theirs d_lost d_grown d_one d_two d_owner d_guest d_signs d_both d_single d_told d_places d d_right d_text d_dots d_texts d_grows d_keeps d_k d_unlike d_numbers d_script) := .there (.there (.there (.there (.there (.there (.there (.there (.there (.there (.there (.there (.there (.there (.there (.there (.there (.there (.there (.there .here)))))))))))))))))))
theorem dbg_left : dbg (Str.ofString "left") = false := by decide +kernel
theorem nm_left {d_row d_other d_size d_head d_tail d_first d_wide d_mine d_theirs d_lost d_grown d_one d_two d_owner d_guest d_signs d_both d_single d_told d_places d_left d_right d_text d_dots d_texts d_grows d_keeps d_k d_unlike d_numbers d_script : D} {pos : Pos} (hk : d_left.ok = true) : EvE prog w h₁ n sc (lw d_row d_other d_size d_head d_tail d_first d_wide d_mine d_theirs d_lost d_grown d_one d_two d_owner d_guest d_signs d_both d_single d_told d_places d_left d_right d_text d_dots d_texts d_grows d_keeps d_k d_unlike d_numbers d_script) (.Name (Str.ofString "left") pos) d_left := EvE.nm lk_left hk dbg_left
theorem kn_left : KindS (fScope (stm 12)) (Str.ofString "left") := by decide +kernel
theorem lk_right {d_row d_other d_size d_head d_tail d_first d_wide d_mine d_theirs d_lost d_grown d_one d_two d_owner d_guest d_signs d_both d_single d_told d_places d_left d_right d_text d_dots d_texts d_grows d_keeps d_k d_unlike d_numbers d_script : D} : Look (Str.ofString "right") (lw d_row d_other d_size d_head d_tail d_first d_wide d_mine d_theirs d_lost d_grown d_one d_two d_owner d_guest d_signs d_both d_single d_told d_places d_left d_right d_text d_dots d_texts d_grows d_keeps d_k d_unlike d_numbers d_script) d_right := .there (.there (.there (.there (.there (.there (.there (.there (.there (.there (.there (.there (.there (.there (.there (.there (.there (.there (.there (.there (.there .here))))))))))))))))))))
theorem st_right {d_row d_other d_size d_head d_tail d_first d_wide d_mine d_theirs d_lost d_grown d_one d_two d_owner d_guest d_signs d_both d_single d_told d_places d_left d_right d_text d_dots d_texts d_grows d_keeps d_k d_unlike d_numbers d_script : D} {d : D} : Set1 (Str.ofString "right") d (lw d_row d_other d_size d_head d_tail d_first d_wide d_mine d_theirs d_lost d_grown d_one d_two d_owner d_guest d_signs d_both d_single d_told d_places d_left d_right d_text d_dots d_texts d_grows d_keeps d_k d_unlike d_numbers d_script) (lw d_row d_other d_size d_head d_tail d_first d_wide d_mine d_theirs d_lost d_grown d_one d_two d_owner d_guest d_signs d_both d_single d_told d_places d_left d d_text d_dots d_texts d_grows d_keeps d_k d_unlike d_numbers d_script) := .there (.there (.there (.there (.there (.there (.there (.there (.there (.there (.there (.there (.there (.there (.there (.there (.there (.there (.there (.there (.there .here))))))))))))))))))))
theorem dbg_right : dbg (Str.ofString "right") = false := by decide +kernel
theorem nm_right {d_row d_other d_size d_head d_tail d_first d_wide d_mine d_theirs d_lost d_grown d_one d_two d_owner d_guest d_signs d_both d_single d_told d_places d_left d_right d_text d_dots d_texts d_grows d_keeps d_k d_unlike d_numbers d_script : D} {pos : Pos} (hk : d_right.ok = true) : EvE prog w h₁ n sc (lw d_row d_other d_size d_head d_tail d_first d_wide d_mine d_theirs d_lost d_grown d_one d_two d_owner d_guest d_signs d_both d_single d_told d_places d_left d_right d_text d_dots d_texts d_grows d_keeps d_k d_unlike d_numbers d_script) (.Name (Str.ofString "right") pos) d_right := EvE.nm lk_right hk dbg_right
theorem kn_right : KindS (fScope (stm 12)) (Str.ofString "right") := by decide +kernel
theorem lk_text {d_row d_other d_size d_head d_tail d_first d_wide d_mine d_theirs d_lost d_grown d_one d_two d_owner d_guest d_signs d_both d_single d_told d_places d_left d_right d_text d_dots d_texts d_grows d_keeps d_k d_unlike d_numbers d_script : D} : Look (Str.ofString "text") (lw d_row d_other d_size d_head d_tail d_first d_wide d_mine d_theirs d_lost d_grown d_one d_two d_owner d_guest d_signs d_both d_single d_told d_places d_left d_right d_text d_dots d_texts d_grows d_keeps d_k d_unlike d_numbers d_script) d_text := .there (.there (.there (.there (.there (.there (.there (.there (.there (.there (.there (.there (.there (.there (.there (.there (.there (.there (.there (.there (.there (.there .here)))))))))))))))))))))
theorem st_text {d_row d_other d_size d_head d_tail d_first d_wide d_mine d_theirs d_lost d_grown d_one d_two d_owner d_guest d_signs d_both d_single d_told d_places d_left d_right d_text d_dots d_texts d_grows d_keeps d_k d_unlike d_numbers d_script : D} {d : D} : Set1 (Str.ofString "text") d (lw d_row d_other d_size d_head d_tail d_first d_wide d_mine d_theirs d_lost d_grown d_one d_two d_owner d_guest d_signs d_both d_single d_told d_places d_left d_right d_text d_dots d_texts d_grows d_keeps d_k d_unlike d_numbers d_script) (lw d_row d_other d_size d_head d_tail d_first d_wide d_mine d_theirs d_lost d_grown d_one d_two d_owner d_guest d_signs d_both d_single d_told d_places d_left d_right d d_dots d_texts d_grows d_keeps d_k d_unlike d_numbers d_script) := .there (.there (.there (.there (.there (.there (.there (.there (.there (.there (.there (.there (.there (.there (.there (.there (.there (.there (.there (.there (.there (.there .here)))))))))))))))))))))
theorem dbg_text : dbg (Str.ofString "text") = false := by decide +kernel
theorem nm_text {d_row d_other d_size d_head d_tail d_first d_wide d_mine d_theirs d_lost d_grown d_one d_two d_owner d_guest d_signs d_both d_single d_told d_places d_left d_right d_text d_dots d_texts d_grows d_keeps d_k d_unlike d_numbers d_script : D} {pos : Pos} (hk : d_text.ok = true) : EvE prog w h₁ n sc (lw d_row d_other d_size d_head d_tail d_first d_wide d_mine d_theirs d_lost d_grown d_one d_two d_owner d_guest d_signs d_both d_single d_told d_places d_left d_right d_text d_dots d_texts d_grows d_keeps d_k d_unlike d_numbers d_script) (.Name (Str.ofString "text") pos) d_text := EvE.nm lk_text hk dbg_text
theorem lk_dots {d_row d_other d_size d_head d_tail d_first d_wide d_mine d_theirs d_lost d_grown d_one d_two d_owner d_guest d_signs d_both d_single d_told d_places d_left d_right d_text d_dots d_texts d_grows d_keeps d_k d_unlike d_numbers d_script : D} : Look (Str.ofString "dots") (lw d_row d_other d_size d_head d_tail d_first d_wide d_mine d_theirs d_lost d_grown d_one d_two d_owner d_guest d_signs d_both d_single d_told d_places d_left d_right d_text d_dots d_texts d_grows d_keeps d_k d_unlike d_numbers d_script) d_dots := .there (.there (.there (.there (.there (.there (.there (.there (.there (.there (.there (.there (.there (.there (.there (.there (.there (.there (.there (.there (.there (.there (.there .here))))))))))))))))))))))
theorem st_dots {d_row d_other d_size d_head d_tail d_first d_wide d_mine d_theirs d_lost d_grown d_one d_two d_owner d_guest d_signs d_both d_single d_told d_places d_left d_right d_text d_dots d_texts d_grows d_keeps d_k d_unlike d_numbers d_script : D} {d : D} : Set1 (Str.ofString "dots") d (lw d_row d_other d_size d_head d_tail d_first d_wide d_mine d_theirs d_lost d_grown d_one d_two d_owner d_guest d_signs d_both d_single d_told d_places d_left d_right d_text d_dots d_texts d_grows d_keeps d_k d_unlike d_numbers d_script) (lw d_row d_other d_size d_head d_tail d_first d_wide d_mine d_theirs d_lost d_grown d_one d_two d_owner d_guest d_signs d_both d_single d_told d_places d_left d_right d_text d d_texts d_grows d_keeps d_k d_unlike d_numbers d_script) := .there (.there (.there (.there (.there (.there (.there (.there (.there (.there (.there (.there (.there (.there (.there (.there (.there (.there (.there (.there (.there (.there (.there .here))))))))))))))))))))))
theorem dbg_dots : dbg (Str.ofString "dots") = false := by decide +kernel
theorem nm_dots {d_row d_other d_size d_head d_tail d_first d_wide d_mine d_theirs d_lost d_grown d_one d_two d_owner d_guest d_signs d_both d_single d_told d_places d_left d_right d_text d_dots d_texts d_grows d_keeps d_k d_unlike d_numbers d_script : D} {pos : Pos} (hk : d_dots.ok = true) : EvE prog w h₁ n sc (lw d_row d_other d_size d_head d_tail d_first d_wide d_mine d_theirs d_lost d_grown d_one d_two d_owner d_guest d_signs d_both d_single d_told d_places d_left d_right d_text d_dots d_texts d_grows d_keeps d_k d_unlike d_numbers d_script) (.Name (Str.ofString "dots") pos) d_dots := EvE.nm lk_dots hk dbg_dots
theorem kn_dots : KindS (fScope (stm 12)) (Str.ofString "dots") := by decide +kernel
theorem lk_texts {d_row d_other d_size d_head d_tail d_first d_wide d_mine d_theirs d_lost d_grown d_one d_two d_owner d_guest d_signs d_both d_single d_told d_places d_left d_right d_text d_dots d_texts d_grows d_keeps d_k d_unlike d_numbers d_script : D} : Look (Str.ofString "texts") (lw d_row d_other d_size d_head d_tail d_first d_wide d_mine d_theirs d_lost d_grown d_one d_two d_owner d_guest d_signs d_both d_single d_told d_places d_left d_right d_text d_dots d_texts d_grows d_keeps d_k d_unlike d_numbers d_script) d_texts := .there (.there (.there (.there (.there (.there (.there (.there (.there (.there (.there (.there (.there (.there (.there (.there (.there (.there (.there (.there (.there (.there (.there (.there .here)))))))))))))))))))))))
theorem st_texts {d_row d_other d_size d_head d_tail d_first d_wide d_mine d_theirs d_lost d_grown d_one d_two d_owner d_guest d_signs d_both d_single d_told d_places d_left d_right d_text d_dots d_texts d_grows d_keeps d_k d_unlike d_numbers d_script : D} {d : D} : Set1 (Str.ofString "texts") d (lw d_row d_other d_size d_head d_tail d_first d_wide d_mine d_theirs d_lost d_grown d_one d_two d_owner d_guest d_signs d_both d_single d_told d_places d_left d_right d_text d_dots d_texts d_grows d_keeps d_k d_unlike d_numbers d_script) (lw d_row d_other d_size d_head d_tail d_first d_wide d_mine d_theirs d_lost d_grown d_one d_two d_owner d_guest d_signs d_both d_single d_told d_places d_left d_right d_text d_dots d d_grows d_keeps d_k d_unlike d_numbers d_script) := .there (.there (.there (.there (.there (.there (.there (.there (.there (.there (.there (.there (.there (.there (.there (.there (.there (.there (.there (.there (.there (.there (.there (.there .here)))))))))))))))))))))))
theorem dbg_texts : dbg (Str.ofString "texts") = false := by decide +kernel
theorem nm_texts {d_row d_other d_size d_head d_tail d_first d_wide d_mine d_theirs d_lost d_grown d_one d_two d_owner d_guest d_signs d_both d_single d_told d_places d_left d_right d_text d_dots d_texts d_grows d_keeps d_k d_unlike d_numbers d_script : D} {pos : Pos} (hk : d_texts.ok = true) : EvE prog w h₁ n sc (lw d_row d_other d_size d_head d_tail d_first d_wide d_mine d_theirs d_lost d_grown d_one d_two d_owner d_guest d_signs d_both d_single d_told d_places d_left d_right d_text d_dots d_texts d_grows d_keeps d_k d_unlike d_numbers d_script) (.Name (Str.ofString "texts") pos) d_texts := EvE.nm lk_texts hk dbg_texts
theorem lk_grows {d_row d_other d_size d_head d_tail d_first d_wide d_mine d_theirs d_lost d_grown d_one d_two d_owner d_guest d_signs d_both d_single d_told d_places d_left d_right d_text d_dots d_texts d_grows d_keeps d_k d_unlike d_numbers d_script : D} : Look (Str.ofString "grows") (lw d_row d_other d_size d_head d_tail d_first d_wide d_mine d_theirs d_lost d_grown d_one d_two d_owner d_guest d_signs d_both d_single d_told d_places d_left d_right d_text d_dots d_texts d_grows d_keeps d_k d_unlike d_numbers d_script) d_grows := .there (.there (.there (.there (.there (.there (.there (.there (.there (.there (.there (.there (.there (.there (.there (.there (.there (.there (.there (.there (.there (.there (.there (.there (.there .here))))))))))))))))))))))))
theorem st_grows {d_row d_other d_size d_head d_tail d_first d_wide d_mine d_theirs d_lost d_grown d_one d_two d_owner d_guest d_signs d_both d_single d_told d_places d_left d_right d_text d_dots d_texts d_grows d_keeps d_k d_unlike d_numbers d_script : D} {d : D} : Set1 (Str.ofString "grows") d (lw d_row d_other d_size d_head d_tail d_first d_wide d_mine d_theirs d_lost d_grown d_one d_two d_owner d_guest d_signs d_both d_single d_told d_places d_left d_right d_text d_dots d_texts d_grows d_keeps d_k d_unlike d_numbers d_script) (lw d_row d_other d_size d_head d_tail d_first d_wide d_mine d_theirs d_lost d_grown d_one d_two d_owner d_guest d_signs d_both d_single d_told d_places d_left d_right d_text d_dots d_texts d d_keeps d_k d_unlike d_numbers d_script) := .there (.there (.there (.there (.there (.there (.there (.there (.there (.there (.there (.there (.there (.there (.there (.there (.there (.there (.there (.there (.there (.there (.there (.there (.there .here))))))))))))))))))))))))
theorem kn_grows : KindS (fScope (stm 12)) (Str.ofString "grows") := by decide +kernel
theorem lk_keeps {d_row d_other d_size d_head d_tail d_first d_wide d_mine d_theirs d_lost d_grown d_one d_two d_owner d_guest d_signs d_both d_single d_told d_places d_left d_right d_text d_dots d_texts d_grows d_keeps d_k d_unlike d_numbers d_script : D} : Look (Str.ofString "keeps") (lw d_row d_other d_size d_head d_tail d_first d_wide d_mine d_theirs d_lost d_grown d_one d_two d_owner d_guest d_signs d_both d_single d_told d_places d_left d_right d_text d_dots d_texts d_grows d_keeps d_k d_unlike d_numbers d_script) d_keeps := .there (.there (.there (.there (.there (.there (.there (.there (.there (.there (.there (.there (.there (.there (.there (.there (.there (.there (.there (.there (.there (.there (.there (.there (.there (.there .here)))))))))))))))))))))))))
theorem st_keeps {d_row d_other d_size d_head d_tail d_first d_wide d_mine d_theirs d_lost d_grown d_one d_two d_owner d_guest d_signs d_both d_single d_told d_places d_left d_right d_text d_dots d_texts d_grows d_keeps d_k d_unlike d_numbers d_script : D} {d : D} : Set1 (Str.ofString "keeps") d (lw d_row d_other d_size d_head d_tail d_first d_wide d_mine d_theirs d_lost d_grown d_one d_two d_owner d_guest d_signs d_both d_single d_told d_places d_left d_right d_text d_dots d_texts d_grows d_keeps d_k d_unlike d_numbers d_script) (lw d_row d_other d_size d_head d_tail d_first d_wide d_mine d_theirs d_lost d_grown d_one d_two d_owner d_guest d_signs d_both d_single d_told d_places d_left d_right d_text d_dots d_texts d_grows d d_k d_unlike d_numbers d_script) := .there (.there (.there (.there (.there (.there (.there (.there (.there (.there (.there (.there (.there (.there (.there (.there (.there (.there (.there (.there (.there (.there (.there (.there (.there (.there .here)))))))))))))))))))))))))
theorem dbg_keeps : dbg (Str.ofString "keeps") = false := by decide +kernel
theorem nm_keeps {d_row d_other d_size d_head d_tail d_first d_wide d_mine d_theirs d_lost d_grown d_one d_two d_owner d_guest d_signs d_both d_single d_told d_places d_left d_right d_text d_dots d_texts d_grows d_keeps d_k d_unlike d_numbers d_script : D} {pos : Pos} (hk : d_keeps.ok = true) : EvE prog w h₁ n sc (lw d_row d_other d_size d_head d_tail d_first d_wide d_mine d_theirs d_lost d_grown d_one d_two d_owner d_guest d_signs d_both d_single d_told d_places d_left d_right d_text d_dots d_texts d_grows d_keeps d_k d_unlike d_numbers d_script) (.Name (Str.ofString "keeps") pos) d_keeps := EvE.nm lk_keeps hk dbg_keeps
theorem kn_keeps : KindS (fScope (stm 12)) (Str.ofString "keeps") := by decide +kernel
theorem lk_k {d_row d_other d_size d_head d_tail d_first d_wide d_mine d_theirs d_lost d_grown d_one d_two d_owner d_guest d_signs d_both d_single d_told d_places d_left d_right d_text d_dots d_texts d_grows d_keeps d_k d_unlike d_numbers d_script : D} : Look (Str.ofString "k") (lw d_row d_other d_size d_head d_tail d_first d_wide d_mine d_theirs d_lost d_grown d_one d_two d_owner d_guest d_signs d_both d_single d_told d_places d_left d_right d_text d_dots d_texts d_grows d_keeps d_k d_unlike d_numbers d_script) d_k := .there (.there (.there (.there (.there (.there (.there (.there (.there (.there (.there (.there (.there (.there (.there (.there (.there (.there (.there (.there (.there (.there (.there (.there (.there (.there (.there .here))))))))))))))))))))))))))
theorem st_k {d_row d_other d_size d_head d_tail d_first d_wide d_mine d_theirs d_lost d_grown d_one d_two d_owner d_guest d_signs d_both d_single d_told d_places d_left d_right d_text d_dots d_texts d_grows d_keeps d_k d_unlike d_numbers d_script : D} {d : D} : Set1 (Str.ofString "k") d (lw d_row d_other d_size d_head d_tail d_first d_wide d_mine d_theirs d_lost d_grown d_one d_two d_owner d_guest d_signs d_both d_single d_told d_places d_left d_right d_text d_dots d_texts d_grows d_keeps d_k d_unlike d_numbers d_script) (lw d_row d_other d_size d_head d_tail d_first d_wide d_mine d_theirs d_lost d_grown d_one d_two d_owner d_guest d_signs d_both d_single d_told d_places d_left d_right d_text d_dots d_texts d_grows d_keeps d d_unlike d_numbers d_script) := .there (.there (.there (.there (.there (.there (.there (.there (.there (.there (.there (.there (.there (.there (.there (.there (.there (.there (.there (.there (.there (.there (.there (.there (.there (.there (.there .here))))))))))))))))))))))))))
theorem dbg_k : dbg (Str.ofString "k") = false := by decide +kernel
theorem nm_k {d_row d_other d_size d_head d_tail d_first d_wide d_mine d_theirs d_lost d_grown d_one d_two d_owner d_guest d_signs d_both d_single d_told d_places d_left d_right d_text d_dots d_texts d_grows d_keeps d_k d_unlike d_numbers d_script : D} {pos : Pos} (hk : d_k.ok = true) : EvE prog w h₁ n sc (lw d_row d_other d_size d_head d_tail d_first d_wide d_mine d_theirs d_lost d_grown d_one d_two d_owner d_guest d_signs d_both d_single d_told d_places d_left d_right d_text d_dots d_texts d_grows d_keeps d_k d_unlike d_numbers d_script) (.Name (Str.ofString "k") pos) d_k := EvE.nm lk_k hk dbg_k
theorem lk_unlike {d_row d_other d_size d_head d_tail d_first d_wide d_mine d_theirs d_lost d_grown d_one d_two d_owner d_guest d_signs d_both d_single d_told d_places d_left d_right d_text d_dots d_texts d_grows d_keeps d_k d_unlike d_numbers d_script : D} : Look (Str.ofString "unlike") (lw d_row d_other d_size d_head d_tail d_first d_wide d_mine d_theirs d_lost d_grown d_one d_two d_owner d_guest d_signs d_both d_single d_told d_places d_left d_right d_text d_dots d_texts d_grows d_keeps d_k d_unlike d_numbers d_script) d_unlike := .there (.there (.there (.there (.there (.there (.there (.there (.there (.there (.there (.there (.there (.there (.there (.there (.there (.there (.there (.there (.there (.there (.there (.there (.there (.there (.there (.there .here)))))))))))))))))))))))))))
theorem st_unlike {d_row d_other d_size d_head d_tail d_first d_wide d_mine d_theirs d_lost d_grown d_one d_two d_owner d_guest d_signs d_both d_single d_told d_places d_left d_right d_text d_dots d_texts d_grows d_keeps d_k d_unlike d_numbers d_script : D} {d : D} : Set1 (Str.ofString "unlike") d (lw d_row d_other d_size d_head d_tail d_first d_wide d_mine d_theirs d_lost d_grown d_one d_two d_owner d_guest d_signs d_both d_single d_told d_places d_left d_right d_text d_dots d_texts d_grows d_keeps d_k d_unlike d_numbers d_script) (lw d_row d_other d_size d_head d_tail d_first d_wide d_mine d_theirs d_lost d_grown d_one d_two d_owner d_guest d_signs d_both d_single d_told d_places d_left d_right d_text d_dots d_texts d_grows d_keeps d_k d d_numbers d_script) := .there (.there (.there (.there (.there (.there (.there (.there (.there (.there (.there (.there (.there (.there (.there (.there (.there (.there (.there (.there (.there (.there (.there (.there (.there (.there (.there (.there .here)))))))))))))))))))))))))))
theorem dbg_unlike : dbg (Str.ofString "unlike") = false := by decide +kernel
theorem nm_unlike {d_row d_other d_size d_head d_tail d_first d_wide d_mine d_theirs d_lost d_grown d_one d_two d_owner d_guest d_signs d_both d_single d_told d_places d_left d_right d_text d_dots d_texts d_grows d_keeps d_k d_unlike d_numbers d_script : D} {pos : Pos} (hk : d_unlike.ok = true) : EvE prog w h₁ n sc (lw d_row d_other d_size d_head d_tail d_first d_wide d_mine d_theirs d_lost d_grown d_one d_two d_owner d_guest d_signs d_both d_single d_told d_places d_left d_right d_text d_dots d_texts d_grows d_keeps d_k d_unlike d_numbers d_script) (.Name (Str.ofString "unlike") pos) d_unlike := EvE.nm lk_unlike hk dbg_unlike
theorem lk_numbers {d_row d_other d_size d_head d_tail d_first d_wide d_mine d_theirs d_lost d_grown d_one d_two d_owner d_guest d_signs d_both d_single d_told d_places d_left d_right d_text d_dots d_texts d_grows d_keeps d_k d_unlike d_numbers d_script : D} : Look (Str.ofString "numbers") (lw d_row d_other d_size d_head d_tail d_first d_wide d_mine d_theirs d_lost d_grown d_one d_two d_owner d_guest d_signs d_both d_single d_told d_places d_left d_right d_text d_dots d_texts d_grows d_keeps d_k d_unlike d_numbers d_script) d_numbers := .there (.there (.there (.there (.there (.there (.there (.there (.there (.there (.there (.there (.there (.there (.there (.there (.there (.there (.there (.there (.there (.there (.there (.there (.there (.there (.there (.there (.there .here))))))))))))))))))))))))))))
theorem st_numbers {d_row d_other d_size d_head d_tail d_first d_wide d_mine d_theirs d_lost d_grown d_one d_two d_owner d_guest d_signs d_both d_single d_told d_places d_left d_right d_text d_dots d_texts d_grows d_keeps d_k d_unlike d_numbers d_script : D} {d : D} : Set1 (Str.ofString "numbers") d (lw d_row d_other d_size d_head d_tail d_first d_wide d_mine d_theirs d_lost d_grown d_one d_two d_owner d_guest d_signs d_both d_single d_told d_places d_left d_right d_text d_dots d_texts d_grows d_keeps d_k d_unlike d_numbers d_script) (lw d_row d_other d_size d_head d_tail d_first d_wide d_mine d_theirs d_lost d_grown d_one d_two d_owner d_guest d_signs d_both d_single d_told d_places d_left d_right d_text d_dots d_texts d_grows d_keeps d_k d_unlike d d_script) := .there (.there (.there (.there (.there (.there (.there (.there (.there (.there (.there (.there (.there (.there (.there (.there (.there (.there (.there (.there (.there (.there (.there (.there (.there (.there (.there (.there (.there .here))))))))))))))))))))))))))))
theorem dbg_numbers : dbg (Str.ofString "numbers") = false := by decide +kernel
theorem nm_numbers {d_row d_other d_size d_head d_tail d_first d_wide d_mine d_theirs d_lost d_grown d_one d_two d_owner d_guest d_signs d_both d_single d_told d_places d_left d_right d_text d_dots d_texts d_grows d_keeps d_k d_unlike d_numbers d_script : D} {pos : Pos} (hk : d_numbers.ok = true) : EvE prog w h₁ n sc (lw d_row d_other d_size d_head d_tail d_first d_wide d_mine d_theirs d_lost d_grown d_one d_two d_owner d_guest d_signs d_both d_single d_told d_places d_left d_right d_text d_dots d_texts d_grows d_keeps d_k d_unlike d_numbers d_script) (.Name (Str.ofString "numbers") pos) d_numbers := EvE.nm lk_numbers hk dbg_numbers
theorem kn_numbers : KindS (fScope (stm 12)) (Str.ofString "numbers") := by decide +kernel
theorem lk_script {d_row d_other d_size d_head d_tail d_first d_wide d_mine d_theirs d_lost d_grown d_one d_two d_owner d_guest d_signs d_both d_single d_told d_places d_left d_right d_text d_dots d_texts d_grows d_keeps d_k d_unlike d_numbers d_script : D} : Look (Str.ofString "script") (lw d_row d_other d_size d_head d_tail d_first d_wide d_mine d_theirs d_lost d_grown d_one d_two d_owner d_guest d_signs d_both d_single d_told d_places d_left d_right d_text d_dots d_texts d_grows d_keeps d_k d_unlike d_numbers d_script) d_script := .there (.there (.there (.there (.there (.there (.there (.there (.there (.there (.there (.there (.there (.there (.there (.there (.there (.there (.there (.there (.there (.there (.there (.there (.there (.there (.there (.there (.there (.there .here)))))))))))))))))))))))))))))
theorem dbg_script : dbg (Str.ofString "script") = false := by decide +kernel
theorem nm_script {d_row d_other d_size d_head d_tail d_first d_wide d_mine d_theirs d_lost d_grown d_one d_two d_owner d_guest d_signs d_both d_single d_told d_places d_left d_right d_text d_dots d_texts d_grows d_keeps d_k d_unlike d_numbers d_script : D} {pos : Pos} (hk : d_script.ok = true) : EvE prog w h₁ n sc (lw d_row d_other d_size d_head d_tail d_first d_wide d_mine d_theirs d_lost d_grown d_one d_two d_owner d_guest d_signs d_both d_single d_told d_places d_left d_right d_text d_dots d_texts d_grows d_keeps d_k d_unlike d_numbers d_script) (.Name (Str.ofString "script") pos) d_script := EvE.nm lk_script hk dbg_script
end
end Mine
end

-- part MLawH
section

open PySem PySem.W PyProof.Rows
set_option linter.unusedVariables false
set_option maxRecDepth 100000
namespace Mine

theorem swaps_bin (l r : Expr) (op : Operator) (p : Pos) (t : Option Expr) (line : Nat) (env : Env) : swapsWith (.BinOp l op r p) t line env = pure false := rfl
theorem swaps_call (f : Expr) (as : List Expr) (p : Pos) (t : Option Expr) (line : Nat) (env : Env) : swapsWith (.Call f as [] p) t line env = pure false := rfl

/-- what law's text reaches -/
structure Lw (h₁ : Heap) (mg mb : Str → Option Value) : Prop where
  B : Bs h₁ mg mb
  len : Glob mg mb (Str.ofString "len") (.builtin "len")
  enum : Glob mg mb (Str.ofString "enumerate") (.type "enumerate")
  range : Glob mg mb (Str.ofString "range") (.type "range")
  min : Glob mg mb (Str.ofString "min") (.builtin "min")
  sorted : Glob mg mb (Str.ofString "sorted") (.builtin "sorted")
  set : Glob mg mb (Str.ofString "set") (.type "set")
  mark : ∃ tm, Glob mg mb (Str.ofString "ELLIPSIS_MARKER") (.str (S dot3) tm)
  f1 : ∃ a, FnAt h₁ mg 1 a
  f2 : ∃ a, FnAt h₁ mg 2 a
  f5 : ∃ a, FnAt h₁ mg 5 a
  f7 : ∃ a, FnAt h₁ mg 7 a
  f8 : ∃ a, FnAt h₁ mg 8 a
  f9 : ∃ a, FnAt h₁ mg 9 a
  f10 : ∃ a, FnAt h₁ mg 10 a
  f11 : ∃ a, FnAt h₁ mg 11 a

/-- the law's rows -/
structure Rw (r o : List (List Nat)) (f d s : Nat) : Prop where
  U : Unlike r o f d
  hr : SgL r
  ho : SgL o
  h4 : 4 ≤ r.length
  h6 : r.length ≤ 6
  hs : 1 ≤ s
  hsd : s ≤ d
  hs3 : s ≤ 3

section
variable {prog : Program} {w : World} {h₁ : Heap} {mg mb : Str → Option Value} {n : Nat} {sc : Scope} {σ σ' : List (Str × D)}

theorem EvE.at {v i : Expr} {pos : Pos} {row : List (List Nat)} {k : Nat} (hs : ∀ o j, subscripted i false o j = operate [o, j] (getItem o j)) (hv : EvE prog w h₁ n sc σ v (tL row)) (hi : EvE prog w h₁ n sc σ i (.int (k : Int))) (h : k < row.length) (hz : k ≤ 1000) : EvE prog w h₁ n sc σ (.Subscript v i pos) (tx (row.getD k [])) :=
  EvE.sub' hs hv hi (GetE.T (by omega) (by omega) (by rw [Int.toNat_natCast, List.getD_eq_getElem?_getD, List.getElem?_eq_getElem h]; rfl))
theorem EvE.atLast {v : Expr} {p1 p2 pos : Pos} {k : Nat} {row : List (List Nat)} (hv : EvE prog w h₁ n sc σ v (tL row)) (h : 0 < row.length) : EvE prog w h₁ n sc σ (.Subscript v (.UnaryOp .USub (.Constant (.int 1) k p1) p2) pos) (tx (row.getD (row.length - 1) [])) :=
  EvE.sub' (fun _ _ => rfl) hv (EvE.neg EvE.const_int) (GetE.Tneg (by decide) (by omega) (by decide) (by rw [show (-1 + (row.length : Int)).toNat = row.length - 1 by omega, List.getD_eq_getElem?_getD, List.getElem?_eq_getElem (by omega)]; rfl))
theorem EvE.atI {v i : Expr} {pos : Pos} {ns : List Int} {j : Int} {k : Nat} (hs : ∀ o j, subscripted i false o j = operate [o, j] (getItem o j)) (hv : EvE prog w h₁ n sc σ v (iL ns)) (hi : EvE prog w h₁ n sc σ i (.int (k : Int))) (hx : ns[k]? = some j) (hz : k ≤ 1000) : EvE prog w h₁ n sc σ (.Subscript v i pos) (.int j) :=
  EvE.sub' hs hv hi (GetE.I (by omega) (by omega) (by rw [Int.toNat_natCast]; exact hx))
theorem EvE.atILast {v : Expr} {p1 p2 pos : Pos} {k : Nat} {ns : List Int} {j : Int} (hv : EvE prog w h₁ n sc σ v (iL ns)) (h : 0 < ns.length) (hx : ns[ns.length - 1]? = some j) : EvE prog w h₁ n sc σ (.Subscript v (.UnaryOp .USub (.Constant (.int 1) k p1) p2) pos) (.int j) :=
  EvE.sub' (fun _ _ => rfl) hv (EvE.neg EvE.const_int) (GetE.Ineg (by decide) (by omega) (by decide) (by rw [show (-1 + (ns.length : Int)).toNat = ns.length - 1 by omega]; exact hx))
theorem filter_flatMap {α β : Type} (f : α → β) (p : α → Bool) : ∀ l : List α, (l.flatMap fun x => if p x then [f x] else []) = (l.filter p).map f
  | [] => rfl
  | x :: r => by
    rw [List.flatMap_cons, filter_flatMap f p r, List.filter_cons]
    split <;> simp
theorem intD_inj : ∀ x y : Nat, D.int (x : Int) = D.int (y : Int) → x = y := fun x y h => by
  have h := D.int.inj h; omega
theorem tx_inj : ∀ x y : List Nat, tx x = tx y → x = y := fun x y h => S_inj.mp (D.str.inj h)
open Classical in
/-- a clause with a test -/
theorem LoopE.filt {α : Type} {elt target iter t : Expr} {scope : Scope} {pos : Pos} {σc : List (Str × D)} {l : List α} {c : α → D} {σm : α → List (Str × D)} {p : α → Bool} {v : α → D} (hc : ∀ x y, c x = c y → x = y) (hno : NoM σc)
    (hitem : ∀ x ∈ l, AsgE prog w h₁ sc σc target (c x) (σm x) ∧ Weak (σm x) σc ∧ NoM (σm x) ∧ EvB prog w h₁ n sc (σm x) t (p x) ∧ (p x = true → EvE prog w h₁ n sc (σm x) elt (v x))) :
    LoopE prog w h₁ n sc σc (.ListComp elt [⟨target, iter, [t], 0⟩] scope pos) 0 (l.map c) ((l.filter p).map v) := by
  have hf : ∃ f : D → List D, ∀ x, f (c x) = if p x then [v x] else [] := by
    refine ⟨fun d => if h : ∃ x, c x = d then (if p h.choose then [v h.choose] else []) else [], fun x => ?_⟩
    have h : ∃ y, c y = c x := ⟨x, rfl⟩
    show (if h : ∃ y, c y = c x then _ else _) = _
    rw [dif_pos h, hc _ _ h.choose_spec]
  obtain ⟨f, hf⟩ := hf
  have := LoopE.one (prog := prog) (w := w) (h₁ := h₁) (n := n) (sc := sc) (elt := elt) (target := target) (iter := iter) (ifs := [t]) (scope := scope) (pos := pos) (f := f) (ds := l.map c) hno (fun d hd => by
    obtain ⟨x, hx, rfl⟩ := List.mem_map.mp hd
    obtain ⟨h1, h2, h3, h4, h5⟩ := hitem x hx
    refine ⟨σm x, h1, h2, h3, ?_⟩
    cases hp : p x with
    | true => exact .inl ⟨EvB.cast h4 hp, v x, h5 hp, by rw [hf, hp]; rfl⟩
    | false => exact .inr ⟨EvB.cast h4 hp, by rw [hf, hp]; rfl⟩)
  rw [List.flatMap_map] at this
  simp only [hf] at this
  rw [filter_flatMap] at this
  exact this
open Classical in
/-- a clause without a test -/
theorem LoopE.each {α : Type} {elt target iter : Expr} {scope : Scope} {pos : Pos} {σc : List (Str × D)} {l : List α} {c : α → D} {σm : α → List (Str × D)} {v : α → D} (hc : ∀ x y, c x = c y → x = y) (hno : NoM σc)
    (hitem : ∀ x ∈ l, AsgE prog w h₁ sc σc target (c x) (σm x) ∧ Weak (σm x) σc ∧ NoM (σm x) ∧ EvE prog w h₁ n sc (σm x) elt (v x)) :
    LoopE prog w h₁ n sc σc (.ListComp elt [⟨target, iter, [], 0⟩] scope pos) 0 (l.map c) (l.map v) := by
  have hf : ∃ f : D → List D, ∀ x, f (c x) = [v x] := by
    refine ⟨fun d => if h : ∃ x, c x = d then [v h.choose] else [], fun x => ?_⟩
    have h : ∃ y, c y = c x := ⟨x, rfl⟩
    show (if h : ∃ y, c y = c x then _ else _) = _
    rw [dif_pos h, hc _ _ h.choose_spec]
  obtain ⟨f, hf⟩ := hf
  have := LoopE.one (prog := prog) (w := w) (h₁ := h₁) (n := n) (sc := sc) (elt := elt) (target := target) (iter := iter) (ifs := []) (scope := scope) (pos := pos) (f := f) (ds := l.map c) hno (fun d hd => by
    obtain ⟨x, hx, rfl⟩ := List.mem_map.mp hd
    obtain ⟨h1, h2, h3, h5⟩ := hitem x hx
    exact ⟨σm x, h1, h2, h3, .inl ⟨rfl, v x, h5, hf x⟩⟩)
  rw [List.flatMap_map] at this
  simp only [hf] at this
  rw [flatMap_one] at this
  exact this
theorem NoM.of {σ : List (Str × D)} (h : (σ.all fun p => match p.2 with | .mlist _ => false | _ => true) = true) : NoM σ := fun x xs hx => by
  have := List.all_eq_true.mp h _ hx
  cases this
end
end Mine
end

-- part MLawA
section

open PySem PySem.W PyProof.Rows
set_option linter.unusedVariables false
set_option maxRecDepth 100000
namespace Mine

section
variable {prog : Program} {w : World} {h₁ : Heap} {mg mb : Str → Option Value} {n : Nat} {sc : Scope} {σ σ' : List (Str × D)}

set_option maxHeartbeats 4000000 in
theorem law_turn (B : Bs h₁ mg mb) (hlen : Glob mg mb (Str.ofString "len") (.builtin "len")) (henum : Glob mg mb (Str.ofString "enumerate") (.type "enumerate")) {a1 a2 a9 : Addr} (hf1 : FnAt h₁ mg 1 a1) (hf2 : FnAt h₁ mg 2 a2) (hf9 : FnAt h₁ mg 9 a9)
    {r o : List (List Nat)} {f d s : Nat} (U : Unlike r o f d) (hr : SgL r) (ho : SgL o) (hN : r.length ≤ 6) (hs : 1 ≤ s) (hsd : s ≤ d) (L G : List (List Nat)) (hL : L.length ≤ 2) (hG : G.length ≤ 2) (x_row x_other x_mine x_theirs x_single x_told x_places x_left x_right x_text x_dots x_texts x_grows x_keeps x_k x_unlike x_numbers x_script : D) :
    ExL prog w h₁ (n + 8) (fScope (stm 12)) (lw x_row x_other (.int (s : Int)) (tL (r.take f)) (tL (r.drop (f + d))) (.int (f : Int)) (.int (d : Int)) x_mine x_theirs (.mlist (L.map tx)) (.mlist (G.map tx)) (tL (midOf r f d)) (tL (midOf o f d)) (tL r) (tL o) .unset .unset x_single x_told x_places x_left x_right x_text x_dots x_texts x_grows x_keeps x_k x_unlike x_numbers x_script) (match (fBody (stm 12)).getD 8 noD with | .For _ _ b _ _ => b | _ => []) (.next (lw x_row x_other (.int (s : Int)) (tL (r.take f)) (tL (r.drop (f + d))) (.int (f : Int)) (.int (d : Int)) x_mine x_theirs (.mlist ((L ++ if Cond r o f d s then [(del r f s).flatten] else []).map tx)) (.mlist ((G ++ if Cond r o f d s then [(ins o f ((r.drop f).take s)).flatten] else []).map tx)) .unset .unset .unset .unset .unset .unset x_single x_told x_places x_left x_right x_text x_dots x_texts x_grows x_keeps x_k x_unlike x_numbers x_script)) := by
  have hf := U.fit
  have hlo := U.len
  have smh : Sm (r.take f) 6 := (hr.take f).sm (by simp; omega)
  have smt : Sm (r.drop (f + d)) 6 := (hr.drop _).sm (by simp; omega)
  have smm : Sm (midOf r f d) 6 := SgL.sm ((hr.take _).drop _) (by rw [midOf_len U.fit]; omega)
  have smn : Sm (midOf o f d) 6 := SgL.sm ((ho.take _).drop _) (by rw [midOf_len U.symm.fit]; omega)
  have smr : Sm r 6 := hr.sm hN
  have smo : Sm o 6 := ho.sm (by omega)
  conv => arg 7; whnf
  refine ExL.iff (c := decide (Cond r o f d s)) (σ' := lw x_row x_other (.int (s : Int)) (tL (r.take f)) (tL (r.drop (f + d))) (.int (f : Int)) (.int (d : Int)) x_mine x_theirs (.mlist ((L ++ if Cond r o f d s then [(del r f s).flatten] else []).map tx)) (.mlist ((G ++ if Cond r o f d s then [(ins o f ((r.drop f).take s)).flatten] else []).map tx)) .unset .unset .unset .unset .unset .unset x_single x_told x_places x_left x_right x_text x_dots x_texts x_grows x_keeps x_k x_unlike x_numbers x_script) ?tst (fun hc => ?yes) (fun hc => ?no) ExL.nil
  case tst =>
    refine EvB.cmp' (by with_unfolding_all rfl) (EvT.from_ (a := midOf r f d) (k := 6) ⟨(nm_one rfl), smm⟩ (nm_size rfl) (by decide)).1 (EvT.upto (a := midOf o f d) (k := 6) ⟨(nm_two rfl), smn⟩ (EvE.subN (nm_wide rfl) (nm_size rfl) hsd) (by decide)).1 CmpE.eq_T
  case no =>
    have hc := of_decide_eq_false hc
    rw [if_neg hc, if_neg hc, List.append_nil, List.append_nil]
    refine ExL.nil_weak ?_
    unfold lw
    repeat' walk_at "m weak"
  case yes =>
    have hc := of_decide_eq_true hc
    rw [if_pos hc, if_pos hc]
    refine ExL.app (xs := L.map tx) (d := tx (del r f s).flatten) (fun _ => rfl) (fun _ => rfl) (by intro env h; cases env; cases h; rfl) dbg_lost lk_lost ?v (σ' := lw x_row x_other (.int (s : Int)) (tL (r.take f)) (tL (r.drop (f + d))) (.int (f : Int)) (.int (d : Int)) x_mine x_theirs (.mlist ((L ++ [(del r f s).flatten]).map tx)) (.mlist (G.map tx)) (tL (midOf r f d)) (tL (midOf o f d)) (tL r) (tL o) .unset .unset x_single x_told x_places x_left x_right x_text x_dots x_texts x_grows x_keeps x_k x_unlike x_numbers x_script) (by rw [show (L ++ [(del r f s).flatten]).map tx = L.map tx ++ [tx (del r f s).flatten] by simp]; exact st_lost) (by rw [List.length_map]; omega) ?_
    case v =>
      refine EvE.cast (EvT.join (EvT.add (EvT.add (a := r.take f) (k := 6) ⟨(nm_head rfl), smh⟩ (EvT.from_ (a := midOf r f d) (k := 6) ⟨(nm_one rfl), smm⟩ (nm_size rfl) (by decide)) (by decide)) (b := r.drop (f + d)) (m := 6) ⟨(nm_tail rfl), smt⟩ (by decide)) (by decide) (fun _ => rfl) (fun _ => rfl)) ?_
      rw [del_mid U.fit hsd]
    have sgT : ∀ pos1 pos2 pos3 p1 p2 p3 p4 p5 p6 p7, EvT prog w h₁ (n + 8) (fScope (stm 12)) (lw x_row x_other (.int (s : Int)) (tL (r.take f)) (tL (r.drop (f + d))) (.int (f : Int)) (.int (d : Int)) x_mine x_theirs (.mlist ((L ++ [(del r f s).flatten]).map tx)) (.mlist (G.map tx)) (tL (midOf r f d)) (tL (midOf o f d)) (tL r) (tL o) .unset .unset x_single x_told x_places x_left x_right x_text x_dots x_texts x_grows x_keeps x_k x_unlike x_numbers x_script) (.BinOp (.BinOp (.BinOp (.Name (Str.ofString "head") p1) .Add (.Subscript (.Name (Str.ofString "one") p2) (.Slice none (some (.Name (Str.ofString "size") p3)) none p4) p5) pos1) .Add (.Name (Str.ofString "two") p6) pos2) .Add (.Name (Str.ofString "tail") p7) pos3) (r.take f ++ (midOf r f d).take s ++ midOf o f d ++ r.drop (f + d)) 24 := fun _ _ _ _ _ _ _ _ _ _ =>
      EvT.add (EvT.add (EvT.add (a := r.take f) (k := 6) ⟨(nm_head rfl), smh⟩ (EvT.upto (a := midOf r f d) (k := 6) ⟨(nm_one rfl), smm⟩ (nm_size rfl) (by decide)) (by decide)) (b := midOf o f d) (m := 6) ⟨(nm_two rfl), smn⟩ (by decide)) (b := r.drop (f + d)) (m := 6) ⟨(nm_tail rfl), smt⟩ (by decide)
    have sms : Sm (r.take f ++ (midOf r f d).take s ++ midOf o f d ++ r.drop (f + d)) 24 := ((smh.app (smm.take s)).app smn).app smt
    have hsig := signs_eq U hsd
    have sgS : SgL (r.take f ++ (midOf r f d).take s ++ midOf o f d ++ r.drop (f + d)) := by rw [hsig]; exact ho.ins ((hr.drop f).take s) f
    refine ExL.asg (d := tL (r.take f ++ (midOf r f d).take s ++ midOf o f d ++ r.drop (f + d))) (fun _ => swaps_bin ..) kn_signs (sgT ..).1 (σ' := lw x_row x_other (.int (s : Int)) (tL (r.take f)) (tL (r.drop (f + d))) (.int (f : Int)) (.int (d : Int)) x_mine x_theirs (.mlist ((L ++ [(del r f s).flatten]).map tx)) (.mlist (G.map tx)) (tL (midOf r f d)) (tL (midOf o f d)) (tL r) (tL o) (tL (r.take f ++ (midOf r f d).take s ++ midOf o f d ++ r.drop (f + d))) .unset x_single x_told x_places x_left x_right x_text x_dots x_texts x_grows x_keeps x_k x_unlike x_numbers x_script) st_signs ?_
    refine ExL.app (xs := G.map tx) (d := tx (ins o f ((r.drop f).take s)).flatten) (fun _ => rfl) (fun _ => rfl) (by intro env h; cases env; cases h; rfl) dbg_grown lk_grown ?v (σ' := lw x_row x_other (.int (s : Int)) (tL (r.take f)) (tL (r.drop (f + d))) (.int (f : Int)) (.int (d : Int)) x_mine x_theirs (.mlist ((L ++ [(del r f s).flatten]).map tx)) (.mlist ((G ++ [(ins o f ((r.drop f).take s)).flatten]).map tx)) (tL (midOf r f d)) (tL (midOf o f d)) (tL r) (tL o) (tL (r.take f ++ (midOf r f d).take s ++ midOf o f d ++ r.drop (f + d))) .unset x_single x_told x_places x_left x_right x_text x_dots x_texts x_grows x_keeps x_k x_unlike x_numbers x_script) (by rw [show (G ++ [(ins o f ((r.drop f).take s)).flatten]).map tx = G.map tx ++ [tx (ins o f ((r.drop f).take s)).flatten] by simp]; exact st_grown) (by rw [List.length_map]; omega) ?_
    case v =>
      refine EvE.cast (EvT.join (ls := r.take f ++ (midOf r f d).take s ++ midOf o f d ++ r.drop (f + d)) (m := 24) ⟨(nm_signs rfl), sms⟩ (by decide) (fun _ => rfl) (fun _ => rfl)) ?_
      rw [hsig]
    have lt128 : ∀ x ∈ r.take f ++ (midOf r f d).take s ++ midOf o f d ++ r.drop (f + d), ∀ c ∈ x, c < 128 := fun x hx c hc => ((sgS x hx).lt c hc).1
    refine ExL.cons (σ' := lw x_row x_other (.int (s : Int)) (tL (r.take f)) (tL (r.drop (f + d))) (.int (f : Int)) (.int (d : Int)) x_mine x_theirs (.mlist ((L ++ [(del r f s).flatten]).map tx)) (.mlist ((G ++ [(ins o f ((r.drop f).take s)).flatten]).map tx)) (tL (midOf r f d)) (tL (midOf o f d)) (tL r) (tL o) (tL (r.take f ++ (midOf r f d).take s ++ midOf o f d ++ r.drop (f + d))) .unset x_single x_told x_places x_left x_right x_text x_dots x_texts x_grows x_keeps x_k x_unlike x_numbers x_script) (ExS.if_false (EvB.orFF ?t1 ?t2) ExL.nil) ?_
    case t1 =>
      refine EvB.cast (EvB.cmp' (by with_unfolding_all rfl) (d₁ := tx (hideF (r.take f ++ (midOf r f d).take s ++ midOf o f d ++ r.drop (f + d)) f s)) (d₂ := tx o.flatten) ?h1 (EvT.join (ls := o) (m := 6) ⟨(nm_guest rfl), smo⟩ (by decide) (fun _ => rfl) (fun _ => rfl)) CmpE.ne_t) ?_
      case h1 =>
        have hcall := hide_calls (prog := prog) (w := w) (n := n + 4) B hlen henum hf1 hf2 hf9 (r.take f ++ (midOf r f d).take s ++ midOf o f d ++ r.drop (f + d)) f s (by have := sms.len; omega) (by have := sms.sum; show ((r.take f ++ (midOf r f d).take s ++ midOf o f d ++ r.drop (f + d)).map List.length).sum ≤ 200; omega) lt128
        refine EvE.call_def B hf9 (by decide +kernel) (by decide +kernel) (by decide +kernel) (fun _ => rfl) ?_ hcall
        exact EvL.cons' (nm_signs rfl) (EvL.cons' (nm_first rfl) (EvL.cons' (nm_size rfl) EvL.nil (fun _ => rfl)) (fun _ => rfl)) (fun _ => rfl)
      rw [hsig, hide_guest U hr ho hs hsd]; simp
    case t2 =>
      refine EvB.cast (EvB.cmp' (by with_unfolding_all rfl) (d₁ := tx (hideF (r.take f ++ (midOf r f d).take s ++ midOf o f d ++ r.drop (f + d)) (f + d) s)) (d₂ := tx r.flatten) ?h1 (EvT.join (ls := r) (m := 6) ⟨(nm_owner rfl), smr⟩ (by decide) (fun _ => rfl) (fun _ => rfl)) CmpE.ne_t) ?_
      case h1 =>
        have hcall := hide_calls (prog := prog) (w := w) (n := n + 4) B hlen henum hf1 hf2 hf9 (r.take f ++ (midOf r f d).take s ++ midOf o f d ++ r.drop (f + d)) (f + d) s (by have := sms.len; omega) (by have := sms.sum; show ((r.take f ++ (midOf r f d).take s ++ midOf o f d ++ r.drop (f + d)).map List.length).sum ≤ 200; omega) lt128
        refine EvE.call_def B hf9 (by decide +kernel) (by decide +kernel) (by decide +kernel) (fun _ => rfl) ?_ hcall
        exact EvL.cons' (nm_signs rfl) (EvL.cons' (EvE.addN (nm_first rfl) (nm_wide rfl)) (EvL.cons' (nm_size rfl) EvL.nil (fun _ => rfl)) (fun _ => rfl)) (fun _ => rfl)
      rw [hsig, hide_owner U hr ho hs hsd hc]; simp
    have smb : Sm (r.take f ++ [[34]] ++ (midOf r f d).take s ++ [[34]] ++ (midOf o f d).take (d - s) ++ [[34]] ++ (midOf o f d).drop (d - s) ++ [[34]] ++ r.drop (f + d)) 34 := ((((((((smh.app (m := 1) ⟨by simp, by simp⟩).app (smm.take s)).app (m := 1) ⟨by simp, by simp⟩).app (smn.take _)).app (m := 1) ⟨by simp, by simp⟩).app (smn.drop _)).app (m := 1) ⟨by simp, by simp⟩).app smt)
    refine ExL.asg (d := tL (r.take f ++ [[34]] ++ (midOf r f d).take s ++ [[34]] ++ (midOf o f d).take (d - s) ++ [[34]] ++ (midOf o f d).drop (d - s) ++ [[34]] ++ r.drop (f + d))) (fun _ => swaps_bin ..) kn_both ?v (σ' := lw x_row x_other (.int (s : Int)) (tL (r.take f)) (tL (r.drop (f + d))) (.int (f : Int)) (.int (d : Int)) x_mine x_theirs (.mlist ((L ++ [(del r f s).flatten]).map tx)) (.mlist ((G ++ [(ins o f ((r.drop f).take s)).flatten]).map tx)) (tL (midOf r f d)) (tL (midOf o f d)) (tL r) (tL o) (tL (r.take f ++ (midOf r f d).take s ++ midOf o f d ++ r.drop (f + d))) (tL (r.take f ++ [[34]] ++ (midOf r f d).take s ++ [[34]] ++ (midOf o f d).take (d - s) ++ [[34]] ++ (midOf o f d).drop (d - s) ++ [[34]] ++ r.drop (f + d))) x_single x_told x_places x_left x_right x_text x_dots x_texts x_grows x_keeps x_k x_unlike x_numbers x_script) st_both ?_
    case v =>
      exact (EvT.add (EvT.add (EvT.add (EvT.add (EvT.add (EvT.add (EvT.add (EvT.add (a := r.take f) (k := 6) ⟨(nm_head rfl), smh⟩ EvT.quote (by decide)) (EvT.upto (a := midOf r f d) (k := 6) ⟨(nm_one rfl), smm⟩ (nm_size rfl) (by decide)) (by decide)) EvT.quote (by decide)) (EvT.upto (a := midOf o f d) (k := 6) ⟨(nm_two rfl), smn⟩ (EvE.subN (nm_wide rfl) (nm_size rfl) hsd) (by decide)) (by decide)) EvT.quote (by decide)) (EvT.from_ (a := midOf o f d) (k := 6) ⟨(nm_two rfl), smn⟩ (EvE.subN (nm_wide rfl) (nm_size rfl) hsd) (by decide)) (by decide)) EvT.quote (by decide)) (b := r.drop (f + d)) (m := 6) ⟨(nm_tail rfl), smt⟩ (by decide)).1
    have lt128b : ∀ c ∈ (r.take f ++ [[34]] ++ (midOf r f d).take s ++ [[34]] ++ (midOf o f d).take (d - s) ++ [[34]] ++ (midOf o f d).drop (d - s) ++ [[34]] ++ r.drop (f + d)).flatten, c < 128 := by
      intro c hc
      obtain ⟨x, hx, hcx⟩ := List.mem_flatten.mp hc
      simp only [List.mem_append, List.mem_singleton] at hx
      have hm : SgL (midOf r f d) := (hr.take _).drop _
      have hn : SgL (midOf o f d) := (ho.take _).drop _
      have q : ∀ x, x = [34] → c ∈ x → c < 128 := fun x h hc => by subst h; simp at hc; omega
      rcases hx with (((((((hx | hx) | hx) | hx) | hx) | hx) | hx) | hx) | hx
      · exact ((hr.take f x hx).lt c hcx).1
      · exact q x hx hcx
      · exact ((hm.take s x hx).lt c hcx).1
      · exact q x hx hcx
      · exact ((hn.take _ x hx).lt c hcx).1
      · exact q x hx hcx
      · exact ((hn.drop _ x hx).lt c hcx).1
      · exact q x hx hcx
      · exact ((hr.drop _ x hx).lt c hcx).1
    refine ExL.cons (σ' := lw x_row x_other (.int (s : Int)) (tL (r.take f)) (tL (r.drop (f + d))) (.int (f : Int)) (.int (d : Int)) x_mine x_theirs (.mlist ((L ++ [(del r f s).flatten]).map tx)) (.mlist ((G ++ [(ins o f ((r.drop f).take s)).flatten]).map tx)) (tL (midOf r f d)) (tL (midOf o f d)) (tL r) (tL o) (tL (r.take f ++ (midOf r f d).take s ++ midOf o f d ++ r.drop (f + d))) (tL (r.take f ++ [[34]] ++ (midOf r f d).take s ++ [[34]] ++ (midOf o f d).take (d - s) ++ [[34]] ++ (midOf o f d).drop (d - s) ++ [[34]] ++ r.drop (f + d))) x_single x_told x_places x_left x_right x_text x_dots x_texts x_grows x_keeps x_k x_unlike x_numbers x_script) (ExS.if_false ?t3 ExL.nil) (ExL.nil_weak ?wk)
    case wk =>
      unfold lw
      repeat' walk_at "m weak"
    case t3 =>
      refine EvB.cast (EvB.cmp' (by with_unfolding_all rfl) (d₁ := tx (stripF (r.take f ++ [[34]] ++ (midOf r f d).take s ++ [[34]] ++ (midOf o f d).take (d - s) ++ [[34]] ++ (midOf o f d).drop (d - s) ++ [[34]] ++ r.drop (f + d)).flatten)) (d₂ := tx (del r f s).flatten) ?h1 ?h2 CmpE.ne_t) ?_
      case h1 =>
        have hcall := strip_calls (prog := prog) (w := w) (n := n + 5) B hlen henum hf1 hf2 (r.take f ++ [[34]] ++ (midOf r f d).take s ++ [[34]] ++ (midOf o f d).take (d - s) ++ [[34]] ++ (midOf o f d).drop (d - s) ++ [[34]] ++ r.drop (f + d)).flatten lt128b (by have := smb.flat; omega)
        refine EvE.call_def B hf2 (by decide +kernel) (by decide +kernel) (by decide +kernel) (fun _ => rfl) ?_ hcall
        exact EvL.cons' (EvT.join (ls := r.take f ++ [[34]] ++ (midOf r f d).take s ++ [[34]] ++ (midOf o f d).take (d - s) ++ [[34]] ++ (midOf o f d).drop (d - s) ++ [[34]] ++ r.drop (f + d)) (m := 34) ⟨(nm_both rfl), smb⟩ (by decide) (fun _ => rfl) (fun _ => rfl)) EvL.nil (fun _ => rfl)
      case h2 =>
        refine EvE.item_m (i := -1) (xs := (L ++ [(del r f s).flatten]).map tx) lk_lost.mem dbg_lost (EvE.neg EvE.const_int) (.inr ⟨by decide, by rw [List.length_map, List.length_append]; simp; omega, by decide, ?_⟩) (fun _ _ => rfl)
        rw [List.map_append, List.length_append, List.length_map]
        show (L.map tx ++ [tx (del r f s).flatten])[((-1 : Int) + ((L.length + 1 : Nat) : Int)).toNat]? = _
        rw [show ((-1 : Int) + ((L.length + 1 : Nat) : Int)).toNat = L.length by omega, List.getElem?_append_right (by simp)]
        simp
      rw [strip_both U hr ho hsd hc]; simp
end
end Mine
end

-- part MLawB
section

open PySem PySem.W PyProof.Rows
set_option linter.unusedVariables false
set_option maxRecDepth 100000
namespace Mine
/-- the law's numbers -/
noncomputable def nsOf (scr : List Int) : List Int := scr.take 6 ++ ([27, 0, 10, 1] : List Int).drop scr.length
noncomputable def ulI (r o : List (List Nat)) : List Int := (unlikeL r o).map fun (k : Nat) => (k : Int)
noncomputable def sizeN (ns : List Int) (d : Nat) : Nat := if 1 + (((ns.getD 3 0).fdiv 4).fmod 3).toNat < d then 1 + (((ns.getD 3 0).fdiv 4).fmod 3).toNat else d

section
variable {prog : Program} {w : World} {h₁ : Heap} {mg mb : Str → Option Value} {n : Nat} {rest : List Stmt} {oc : Oc}

theorem law_0 (W : Lw h₁ mg mb) (scr : List Int) (hz : scr.length ≤ 63) (hr : ExL prog w h₁ (n + 8) (fScope (stm 12)) (lw .unset .unset .unset .unset .unset .unset .unset .unset .unset .unset .unset .unset .unset .unset .unset .unset .unset .unset .unset .unset .unset .unset .unset .unset .unset .unset .unset .unset .unset (iL (nsOf scr)) (.xlist (scr.map D.int))) rest oc) : ExL prog w h₁ (n + 8) (fScope (stm 12)) (lw .unset .unset .unset .unset .unset .unset .unset .unset .unset .unset .unset .unset .unset .unset .unset .unset .unset .unset .unset .unset .unset .unset .unset .unset .unset .unset .unset .unset .unset .unset (.xlist (scr.map D.int))) ((fBody (stm 12)).getD 0 noD :: rest) oc := by
  conv => arg 7; arg 1; whnf
  refine ExL.asg (d := iL (nsOf scr)) (fun _ => swaps_bin ..) kn_numbers ?v st_numbers hr
  case v =>
    refine EvE.cast (EvE.binop (d₁ := iL (cut scr none (some 6))) (EvE.cast (EvE.slice_xlist (nm_script rfl) EvP.none (EvP.some EvE.const_int) (by rw [List.length_map]; omega)) (by rw [cut_map]; rfl)) (EvE.cutI (ns := [27, 0, 10, 1]) (EvE.list' (EvL.cons' EvE.const_int (EvL.cons' EvE.const_int (EvL.cons' EvE.const_int (EvL.cons' EvE.const_int EvL.nil (fun _ => rfl)) (fun _ => rfl)) (fun _ => rfl)) (fun _ => rfl)) (by decide)) (EvP.some (EvE.cast (d' := .int (scr.length : Int)) (EvE.call_b W.B W.len (by decide +kernel) (by decide +kernel) (fun _ => rfl) (fun _ => rfl) (EvL.cons' (nm_script rfl) EvL.nil (fun _ => rfl)) (CallE.len_xlist (by rw [List.length_map]; omega))) (by rw [List.length_map]))) EvP.none (by decide)) (OpE.add_I ?z)) ?e
    case z =>
      have h1 := cut_length scr none (some 6)
      have h2 := cut_length ([27, 0, 10, 1] : List Int) (some (scr.length : Int)) none
      simp only [List.length_cons, List.length_nil] at h2
      omega
    case e =>
      rw [show (some (6 : Int)) = some ((6 : Nat) : Int) from rfl, cut_upto, cut_from]; rfl

theorem law_1 (W : Lw h₁ mg mb) (ns : List Int) (h4 : 4 ≤ ns.length) (h6 : ns.length ≤ 6) (hr : ExL prog w h₁ (n + 8) (fScope (stm 12)) (lw (tL (rowOf ns)) (tL (otherOf ns)) .unset .unset .unset .unset .unset .unset .unset .unset .unset .unset .unset .unset .unset .unset .unset .unset .unset .unset .unset .unset .unset .unset .unset .unset .unset .unset .unset (iL ns) .unset) rest oc) : ExL prog w h₁ (n + 8) (fScope (stm 12)) (lw .unset .unset .unset .unset .unset .unset .unset .unset .unset .unset .unset .unset .unset .unset .unset .unset .unset .unset .unset .unset .unset .unset .unset .unset .unset .unset .unset .unset .unset (iL ns) .unset) ((fBody (stm 12)).getD 1 noD :: rest) oc := by
  conv => arg 7; arg 1; whnf
  obtain ⟨a, hf⟩ := W.f7
  refine ExL.asg2n (d₁ := tL (rowOf ns)) (d₂ := tL (otherOf ns)) (fun _ => rfl) (by intro env h; cases env; cases h; rfl) kn_row kn_other ?v st_row st_other hr
  case v => exact EvE.call_def W.B hf (by decide +kernel) (by decide +kernel) (by decide +kernel) (fun _ => rfl) (EvL.cons' (nm_numbers rfl) EvL.nil (fun _ => rfl)) (rows_calls (n := n + 7) W.B W.len hf ns h4 h6)

theorem law_2 (W : Lw h₁ mg mb) {r o : List (List Nat)} (ns : List Int) (hl : r.length = o.length) (h6 : r.length ≤ 6) (hr : ExL prog w h₁ (n + 8) (fScope (stm 12)) (lw (tL r) (tL o) .unset .unset .unset .unset .unset .unset .unset .unset .unset .unset .unset .unset .unset .unset .unset .unset .unset .unset .unset .unset .unset .unset .unset .unset .unset .unset (iL (ulI r o)) (iL ns) .unset) rest oc) : ExL prog w h₁ (n + 8) (fScope (stm 12)) (lw (tL r) (tL o) .unset .unset .unset .unset .unset .unset .unset .unset .unset .unset .unset .unset .unset .unset .unset .unset .unset .unset .unset .unset .unset .unset .unset .unset .unset .unset .unset (iL ns) .unset) ((fBody (stm 12)).getD 2 noD :: rest) oc := by
  conv => arg 7; arg 1; whnf
  have el : (ulI r o).length ≤ 6 := by
    rw [ulI, List.length_map, unlikeL]
    refine Nat.le_trans (List.length_filter_le _ _) ?_
    rw [List.length_range]; exact h6
  refine ExL.cons (ExS.assign_comp (σc := [(Str.ofString "k", .unset), (Str.ofString "other", tL o), (Str.ofString "row", tL r)]) (d := .rng r.length) (ds := rngL r.length) (out := (unlikeL r o).map fun (k : Nat) => D.int (k : Int)) (σ' := (lw (tL r) (tL o) .unset .unset .unset .unset .unset .unset .unset .unset .unset .unset .unset .unset .unset .unset .unset .unset .unset .unset .unset .unset .unset .unset .unset .unset .unset .unset (iL (ulI r o)) (iL ns) .unset)) ?it (IterE.rng (by omega)) ?caps (LoopE.filt (l := List.range r.length) (c := fun i : Nat => D.int (i : Int)) (σm := fun k : Nat => [(Str.ofString "k", .int (k : Int)), (Str.ofString "other", tL o), (Str.ofString "row", tL r)]) intD_inj ?no ?item) ?len ?set ?no2 (by decide +kernel) (by intro env h; cases env; cases h; rfl)) hr
  case it => exact EvE.cast (EvE.call_t W.B W.range (by decide +kernel) (by decide +kernel) (fun _ => rfl) (fun _ => rfl) (EvL.cons' (EvE.call_b W.B W.len (by decide +kernel) (by decide +kernel) (fun _ => rfl) (fun _ => rfl) (EvL.cons' (nm_row rfl) EvL.nil (fun _ => rfl)) (CallE.len_T (by omega))) EvL.nil (fun _ => rfl)) CallE.range) rfl
  case caps =>
    refine caps_of (σt := [(Str.ofString "k", .unset)]) (σk := [(Str.ofString "other", tL o), (Str.ofString "row", tL r)]) (fr := [Str.ofString "other", Str.ofString "row"]) (by decide +kernel) ?_ (by simp) ?_ (by show List.Nodup [Str.ofString "k", Str.ofString "other", Str.ofString "row"]; decide +kernel) (by decide +kernel)
    · exact List.forall_mem_cons.mpr ⟨⟨by decide +kernel, _, lk_other, rfl⟩, List.forall_mem_cons.mpr ⟨⟨by decide +kernel, _, lk_row, rfl⟩, List.forall_mem_nil _⟩⟩
    · exact List.forall_mem_cons.mpr ⟨⟨lk_other, rfl, by dsimp only; decide +kernel⟩, List.forall_mem_cons.mpr ⟨⟨lk_row, rfl, by dsimp only; decide +kernel⟩, List.forall_mem_nil _⟩⟩
  case no => exact NoM.of rfl
  case item =>
    intro i hi
    have hi := List.mem_range.mp hi
    refine ⟨AsgE.name Set1.here (by decide +kernel), .drop (.same (.same .nil)), NoM.of rfl, ?_, fun _ => EvE.nm .here rfl (by decide +kernel)⟩
    exact EvB.cmp' (by with_unfolding_all rfl) (EvE.at (k := i) (fun _ _ => rfl) (EvE.nm (.there (.there .here)) rfl (by decide +kernel)) (EvE.nm .here rfl (by decide +kernel)) hi (by omega)) (EvE.at (k := i) (fun _ _ => rfl) (EvE.nm (.there .here) rfl (by decide +kernel)) (EvE.nm .here rfl (by decide +kernel)) (by omega) (by omega)) CmpE.ne_t
  case len => rw [ulI, List.length_map] at el; rw [List.length_map]; omega
  case set =>
    rw [show ((unlikeL r o).map fun (k : Nat) => D.int (k : Int)) = (ulI r o).map D.int by rw [ulI, List.map_map]; rfl]
    exact st_unlike
  case no2 => exact NoM.of rfl

theorem law_3 {r o : List (List Nat)} (ns : List Int) {f d : Nat} (h0 : (unlikeL r o)[0]? = some f) (hne : unlikeL r o ≠ []) (hz : (unlikeL r o)[(unlikeL r o).length - 1]? = some (f + d - 1)) (hd : 1 ≤ d) (hr : ExL prog w h₁ (n + 8) (fScope (stm 12)) (lw (tL r) (tL o) .unset .unset .unset (.int (f : Int)) (.int (d : Int)) .unset .unset .unset .unset .unset .unset .unset .unset .unset .unset .unset .unset .unset .unset .unset .unset .unset .unset .unset .unset .unset (iL (ulI r o)) (iL ns) .unset) rest oc) : ExL prog w h₁ (n + 8) (fScope (stm 12)) (lw (tL r) (tL o) .unset .unset .unset .unset .unset .unset .unset .unset .unset .unset .unset .unset .unset .unset .unset .unset .unset .unset .unset .unset .unset .unset .unset .unset .unset .unset (iL (ulI r o)) (iL ns) .unset) ((fBody (stm 12)).getD 3 noD :: rest) oc := by
  conv => arg 7; arg 1; whnf
  have hp : 0 < (ulI r o).length := by rw [ulI, List.length_map]; exact List.length_pos_iff.mpr hne
  have e0 : (ulI r o)[0]? = some (f : Int) := by rw [ulI, List.getElem?_map, h0]; rfl
  have ez : (ulI r o)[(ulI r o).length - 1]? = some ((f + d - 1 : Nat) : Int) := by rw [ulI, List.length_map, List.getElem?_map, hz]; rfl
  refine ExL.asg2 (d₁ := .int (f : Int)) (d₂ := .int (d : Int)) (fun _ => rfl) (by intro env h; cases env; cases h; rfl) kn_first kn_wide ?v st_wide st_first hr
  case v =>
    exact EvE.tuple' (EvL.cons' (EvE.atI (k := 0) (fun _ _ => rfl) (nm_unlike rfl) EvE.const_int e0 (by decide)) (EvL.cons' (EvE.cast (EvE.binop (EvE.binop (EvE.atILast (nm_unlike rfl) hp ez) (EvE.atI (k := 0) (fun _ _ => rfl) (nm_unlike rfl) EvE.const_int e0 (by decide)) OpE.sub_int) EvE.const_int OpE.add_int) (by congr 1; omega)) EvL.nil (fun _ => rfl)) (fun _ => rfl)) (by simp)

theorem law_4 (W : Lw h₁ mg mb) {r o : List (List Nat)} (ns : List Int) (h4 : 4 ≤ ns.length) {f d : Nat} (hr : ExL prog w h₁ (n + 8) (fScope (stm 12)) (lw (tL r) (tL o) (.int (sizeN ns d : Int)) .unset .unset (.int (f : Int)) (.int (d : Int)) .unset .unset .unset .unset .unset .unset .unset .unset .unset .unset .unset .unset .unset .unset .unset .unset .unset .unset .unset .unset .unset .unset (iL ns) .unset) rest oc) : ExL prog w h₁ (n + 8) (fScope (stm 12)) (lw (tL r) (tL o) .unset .unset .unset (.int (f : Int)) (.int (d : Int)) .unset .unset .unset .unset .unset .unset .unset .unset .unset .unset .unset .unset .unset .unset .unset .unset .unset .unset .unset .unset .unset .unset (iL ns) .unset) ((fBody (stm 12)).getD 4 noD :: rest) oc := by
  conv => arg 7; arg 1; whnf
  refine ExL.asg (d := .int (sizeN ns d : Int)) (fun _ => swaps_call ..) kn_size ?v st_size hr
  case v =>
    refine EvE.cast (EvE.call_b W.B W.min (by decide +kernel) (by decide +kernel) (fun _ => rfl) (fun _ => rfl) (EvL.cons' (nm_wide rfl) (EvL.cons' (EvE.binop EvE.const_int (EvE.binop (EvE.binop (EvE.numAt (i := 3) (nm_numbers rfl) rfl (by omega)) EvE.const_int (OpE.div_int (by decide) (by decide))) EvE.const_int (OpE.mod_int (by decide))) OpE.add_int) EvL.nil (fun _ => rfl)) (fun _ => rfl)) CallE.min_int) ?e
    case e =>
      have := fmod_range ((ns.getD 3 0).fdiv 4) 3 (by decide)
      unfold sizeN
      congr 1
      split <;> split <;> omega

theorem law_5 {r o : List (List Nat)} {f d s : Nat} (R : Rw r o f d s) (hr : ExL prog w h₁ (n + 8) (fScope (stm 12)) (lw (tL r) (tL o) (.int (s : Int)) (tL (r.take f)) (tL (r.drop (f + d))) (.int (f : Int)) (.int (d : Int)) .unset .unset .unset .unset .unset .unset .unset .unset .unset .unset .unset .unset .unset .unset .unset .unset .unset .unset .unset .unset .unset .unset .unset .unset) rest oc) : ExL prog w h₁ (n + 8) (fScope (stm 12)) (lw (tL r) (tL o) (.int (s : Int)) .unset .unset (.int (f : Int)) (.int (d : Int)) .unset .unset .unset .unset .unset .unset .unset .unset .unset .unset .unset .unset .unset .unset .unset .unset .unset .unset .unset .unset .unset .unset .unset .unset) ((fBody (stm 12)).getD 5 noD :: rest) oc := by
  conv => arg 7; arg 1; whnf
  have smr : Sm r 6 := R.hr.sm R.h6
  refine ExL.asg2n (d₁ := tL (r.take f)) (d₂ := tL (r.drop (f + d))) (fun _ => rfl) (by intro env h; cases env; cases h; rfl) kn_head kn_tail ?v st_head st_tail hr
  case v => exact EvE.tuple' (EvL.cons' (EvT.upto (k := 6) ⟨(nm_row rfl), smr⟩ (nm_first rfl) (by decide)).1 (EvL.cons' (EvT.from_ (k := 6) ⟨(nm_row rfl), smr⟩ (EvE.addN (nm_first rfl) (nm_wide rfl)) (by decide)).1 EvL.nil (fun _ => rfl)) (fun _ => rfl)) (by simp)

theorem law_6 {r o : List (List Nat)} {f d s : Nat} (R : Rw r o f d s) (hr : ExL prog w h₁ (n + 8) (fScope (stm 12)) (lw (tL r) (tL o) (.int (s : Int)) (tL (r.take f)) (tL (r.drop (f + d))) (.int (f : Int)) (.int (d : Int)) (tL (midOf r f d)) (tL (midOf o f d)) .unset .unset .unset .unset .unset .unset .unset .unset .unset .unset .unset .unset .unset .unset .unset .unset .unset .unset .unset .unset .unset .unset) rest oc) : ExL prog w h₁ (n + 8) (fScope (stm 12)) (lw (tL r) (tL o) (.int (s : Int)) (tL (r.take f)) (tL (r.drop (f + d))) (.int (f : Int)) (.int (d : Int)) .unset .unset .unset .unset .unset .unset .unset .unset .unset .unset .unset .unset .unset .unset .unset .unset .unset .unset .unset .unset .unset .unset .unset .unset) ((fBody (stm 12)).getD 6 noD :: rest) oc := by
  conv => arg 7; arg 1; whnf
  have smr : Sm r 6 := R.hr.sm R.h6
  have smo : Sm o 6 := R.ho.sm (by have := R.U.len; have := R.h6; omega)
  refine ExL.asg2 (d₁ := tL (midOf r f d)) (d₂ := tL (midOf o f d)) (fun _ => rfl) (by intro env h; cases env; cases h; rfl) kn_mine kn_theirs ?v st_theirs st_mine hr
  case v => exact EvE.tuple' (EvL.cons' (EvT.both (k := 6) ⟨(nm_row rfl), smr⟩ (nm_first rfl) (EvE.addN (nm_first rfl) (nm_wide rfl)) (by decide)).1 (EvL.cons' (EvT.both (k := 6) ⟨(nm_other rfl), smo⟩ (nm_first rfl) (EvE.addN (nm_first rfl) (nm_wide rfl)) (by decide)).1 EvL.nil (fun _ => rfl)) (fun _ => rfl)) (by simp)

theorem law_7 {r o : List (List Nat)} {f d s : Nat} (hr : ExL prog w h₁ (n + 8) (fScope (stm 12)) (lw (tL r) (tL o) (.int (s : Int)) (tL (r.take f)) (tL (r.drop (f + d))) (.int (f : Int)) (.int (d : Int)) (tL (midOf r f d)) (tL (midOf o f d)) (.mlist []) (.mlist []) .unset .unset .unset .unset .unset .unset .unset .unset .unset .unset .unset .unset .unset .unset .unset .unset .unset .unset .unset .unset) rest oc) : ExL prog w h₁ (n + 8) (fScope (stm 12)) (lw (tL r) (tL o) (.int (s : Int)) (tL (r.take f)) (tL (r.drop (f + d))) (.int (f : Int)) (.int (d : Int)) (tL (midOf r f d)) (tL (midOf o f d)) .unset .unset .unset .unset .unset .unset .unset .unset .unset .unset .unset .unset .unset .unset .unset .unset .unset .unset .unset .unset .unset .unset) ((fBody (stm 12)).getD 7 noD :: rest) oc := by
  conv => arg 7; arg 1; whnf
  exact ExL.cons (ExS.pair_mm (NoM.of rfl) st_grown st_lost kn_lost kn_grown (by intro env h; cases env; cases h; rfl)) hr
end
end Mine
end

-- part MLawC
section

open PySem PySem.W PyProof.Rows
set_option linter.unusedVariables false
set_option maxRecDepth 100000
namespace Mine
theorem map_tx_inj : ∀ {a b : List (List Nat)}, a.map tx = b.map tx → a = b
  | [], [], _ => rfl
  | [], _ :: _, h => by cases h
  | _ :: _, [], h => by cases h
  | x :: a, y :: b, h => by
    rw [List.map_cons, List.map_cons] at h
    obtain ⟨h1, h2⟩ := List.cons.inj h
    rw [tx_inj x y h1, map_tx_inj h2]
theorem tL_inj {a b : List (List Nat)} (h : tL a = tL b) : a = b := by
  unfold tL at h
  have h := D.list.inj h
  rw [sL_tx, sL_tx] at h
  exact map_tx_inj h
/-- dots between the signs -/
theorem ell_mid {s t : List (List Nat)} (hs : SgL s) (ht : SgL t) (h2 : 2 ≤ s.length) (h2' : 2 ≤ t.length) :
    ellF s t.flatten = (decide (s.Sublist t) && (decide (s.getD 0 [] = t.getD 0 []) && decide (s.getD (s.length - 1) [] = t.getD (t.length - 1) []))) := by
  have key : ∀ l : List (List Nat), 2 ≤ l.length → ∃ a m b, l = a :: m ++ [b] := fun l h => by
    cases l with
    | nil => simp at h
    | cons a r =>
      have hr : r ≠ [] := by intro q; subst q; simp at h
      exact ⟨a, r.dropLast, r.getLast hr, by rw [List.cons_append, List.dropLast_concat_getLast]⟩
  obtain ⟨a, m, b, rfl⟩ := key s h2
  obtain ⟨c, u, e, rfl⟩ := key t h2'
  rw [ell_dots1 hs ht]
  have e1 : ∀ (x y : List Nat) (z : List (List Nat)), (x :: z ++ [y]).getD 0 [] = x := fun _ _ _ => rfl
  have e2 : ∀ (x y : List Nat) (z : List (List Nat)), (x :: z ++ [y]).getD ((x :: z ++ [y]).length - 1) [] = y := fun x y z => by
    rw [List.getD_eq_getElem?_getD, List.getElem?_append_right (by simp)]; simp
  rw [e1, e1, e2, e2]

section
variable {prog : Program} {w : World} {h₁ : Heap} {mg mb : Str → Option Value} {n : Nat} {rest : List Stmt} {oc : Oc}

variable {sc : Scope} {σ σ' : List (Str × D)}
theorem EvE.andC {x y : Expr} {l : List Expr} {pos : Pos} {a b : Bool} (hx : EvE prog w h₁ n sc σ x (.bool a)) (hy : a = true → EvE prog w h₁ n sc σ (.BoolOp .And (y :: l) pos) (.bool b)) : EvE prog w h₁ n sc σ (.BoolOp .And (x :: y :: l) pos) (.bool (a && b)) := fun A E env F s g rm hs I => by
  refine BoolOp_and (wpAny_mono (hx A E env F s g rm hs I) (fun v s₁ ⟨g₁, G₁, r₁⟩ => ?_) fun _ _ x => x)
  cases r₁
  refine wpAny_truthy_bool ?_
  cases a with
  | false => exact ⟨g₁, G₁, .bool _⟩
  | true =>
    simp only [if_true, Bool.true_and]
    exact wpAny_mono (hy rfl A E env F s₁ g₁ rm hs (I.grow' G₁)) (fun v s₂ ⟨g₂, G₂, r₂⟩ => ⟨g₂, G₁.trans G₂, r₂⟩) fun _ _ x => x

theorem law_9 {r o : List (List Nat)} {f d s : Nat} (R : Rw r o f d s) (hr : ExL prog w h₁ (n + 8) (fScope (stm 12)) (lw (tL r) (tL o) (.int (s : Int)) (tL (r.take f)) (tL (r.drop (f + d))) (.int (f : Int)) (.int (d : Int)) (tL (midOf r f d)) (tL (midOf o f d)) (tL (lostF r o f d s)) (tL (grownF r o f d s)) .unset .unset .unset .unset .unset .unset (tL (lostF r o f d 1)) .unset .unset .unset .unset .unset .unset .unset .unset .unset .unset .unset .unset .unset) rest oc) : ExL prog w h₁ (n + 8) (fScope (stm 12)) (lw (tL r) (tL o) (.int (s : Int)) (tL (r.take f)) (tL (r.drop (f + d))) (.int (f : Int)) (.int (d : Int)) (tL (midOf r f d)) (tL (midOf o f d)) (tL (lostF r o f d s)) (tL (grownF r o f d s)) .unset .unset .unset .unset .unset .unset .unset .unset .unset .unset .unset .unset .unset .unset .unset .unset .unset .unset .unset .unset) ((fBody (stm 12)).getD 9 noD :: rest) oc := by
  conv => arg 7; arg 1; whnf
  have U := R.U
  have hf := U.fit
  have hlo := U.len
  have hN := R.h6
  have smh : Sm (r.take f) 6 := (R.hr.take f).sm (by simp; omega)
  have smt : Sm (r.drop (f + d)) 6 := (R.hr.drop _).sm (by simp; omega)
  have smm : Sm (midOf r f d) 6 := SgL.sm ((R.hr.take _).drop _) (by rw [midOf_len U.fit]; omega)
  have smn : Sm (midOf o f d) 6 := SgL.sm ((R.ho.take _).drop _) (by rw [midOf_len U.symm.fit]; omega)
  have sides : ∀ x ∈ [(midOf r f d, midOf o f d), (midOf o f d, midOf r f d)], (Sm x.1 6 ∧ Sm x.2 6) ∧ x.2.length = d := fun x hx => by
    rcases List.mem_cons.mp hx with rfl | hx
    · exact ⟨⟨smm, smn⟩, midOf_len U.symm.fit⟩
    · rcases List.mem_cons.mp hx with rfl | hx
      · exact ⟨⟨smn, smm⟩, midOf_len U.fit⟩
      · cases hx
  have e : (([(midOf r f d, midOf o f d), (midOf o f d, midOf r f d)].filter fun x => decide (x.1.drop 1 = x.2.take (d - 1))).map fun x => tx (r.take f ++ x.1.drop 1 ++ r.drop (f + d)).flatten) = (lostF r o f d 1).map tx := by
    have q1 : r.take f ++ (midOf r f d).drop 1 ++ r.drop (f + d) = del r f 1 := del_mid U.fit U.pos
    have q2 : r.take f ++ (midOf o f d).drop 1 ++ r.drop (f + d) = del o f 1 := by
      rw [← U.heads.1, ← U.heads.2]; exact del_mid U.symm.fit U.pos
    unfold lostF Cond
    simp only [List.filter_cons, List.filter_nil]
    by_cases c1 : (midOf r f d).drop 1 = (midOf o f d).take (d - 1) <;> by_cases c2 : (midOf o f d).drop 1 = (midOf r f d).take (d - 1)
    · rw [if_pos (decide_eq_true c1), if_pos (decide_eq_true c2), if_pos c1, if_pos c2]
      simp only [List.map_cons, List.map_nil, List.cons_append, List.nil_append, q1, q2]
    · rw [if_pos (decide_eq_true c1), if_neg (fun h => c2 (of_decide_eq_true h)), if_pos c1, if_neg c2]
      simp only [List.map_cons, List.map_nil, List.append_nil, q1]
    · rw [if_neg (fun h => c1 (of_decide_eq_true h)), if_pos (decide_eq_true c2), if_neg c1, if_pos c2]
      simp only [List.map_cons, List.map_nil, List.nil_append, q2]
    · rw [if_neg (fun h => c1 (of_decide_eq_true h)), if_neg (fun h => c2 (of_decide_eq_true h)), if_neg c1, if_neg c2]
      rfl
  refine ExL.cons (ExS.assign_comp (σc := [(Str.ofString "one", .unset), (Str.ofString "two", .unset), (Str.ofString "head", tL (r.take f)), (Str.ofString "tail", tL (r.drop (f + d)))]) (d := .tuple [.tuple [tL (midOf r f d), tL (midOf o f d)], .tuple [tL (midOf o f d), tL (midOf r f d)]]) (ds := [.tuple [tL (midOf r f d), tL (midOf o f d)], .tuple [tL (midOf o f d), tL (midOf r f d)]]) (out := (lostF r o f d 1).map tx) (σ' := (lw (tL r) (tL o) (.int (s : Int)) (tL (r.take f)) (tL (r.drop (f + d))) (.int (f : Int)) (.int (d : Int)) (tL (midOf r f d)) (tL (midOf o f d)) (tL (lostF r o f d s)) (tL (grownF r o f d s)) .unset .unset .unset .unset .unset .unset (tL (lostF r o f d 1)) .unset .unset .unset .unset .unset .unset .unset .unset .unset .unset .unset .unset .unset)) ?it IterE.tuple ?caps ?loop ?len ?set ?no2 (by decide +kernel) (by intro env h; cases env; cases h; rfl)) hr
  case it => exact EvE.tuple' (EvL.cons' (EvE.tuple' (EvL.cons' (nm_mine rfl) (EvL.cons' (nm_theirs rfl) EvL.nil (fun _ => rfl)) (fun _ => rfl)) (by simp)) (EvL.cons' (EvE.tuple' (EvL.cons' (nm_theirs rfl) (EvL.cons' (nm_mine rfl) EvL.nil (fun _ => rfl)) (fun _ => rfl)) (by simp)) EvL.nil (fun _ => rfl)) (fun _ => rfl)) (by simp)
  case caps =>
    refine caps_of (σt := [(Str.ofString "one", .unset), (Str.ofString "two", .unset)]) (σk := [(Str.ofString "head", tL (r.take f)), (Str.ofString "tail", tL (r.drop (f + d)))]) (fr := [Str.ofString "head", Str.ofString "tail"]) (by decide +kernel) ?_ (by simp) ?_ (by show List.Nodup [Str.ofString "one", Str.ofString "two", Str.ofString "head", Str.ofString "tail"]; decide +kernel) (by decide +kernel)
    · exact List.forall_mem_cons.mpr ⟨⟨by decide +kernel, _, lk_head, rfl⟩, List.forall_mem_cons.mpr ⟨⟨by decide +kernel, _, lk_tail, rfl⟩, List.forall_mem_nil _⟩⟩
    · exact List.forall_mem_cons.mpr ⟨⟨lk_head, rfl, by dsimp only; decide +kernel⟩, List.forall_mem_cons.mpr ⟨⟨lk_tail, rfl, by dsimp only; decide +kernel⟩, List.forall_mem_nil _⟩⟩
  case loop =>
    rw [← e]
    refine LoopE.filt (l := [(midOf r f d, midOf o f d), (midOf o f d, midOf r f d)]) (c := fun x => .tuple [tL x.1, tL x.2]) (σm := fun x => [(Str.ofString "one", tL x.1), (Str.ofString "two", tL x.2), (Str.ofString "head", tL (r.take f)), (Str.ofString "tail", tL (r.drop (f + d)))]) ?inj (NoM.of rfl) ?item
    case inj =>
      intro x y h
      have h := D.tuple.inj h
      obtain ⟨h1, h2⟩ := List.cons.inj h
      exact Prod.ext (tL_inj h1) (tL_inj (List.cons.inj h2).1)
    case item =>
      intro x hx
      obtain ⟨⟨s1, s2⟩, l2⟩ := sides x hx
      refine ⟨AsgE.pair Set1.here (.there .here) (by decide +kernel) (by decide +kernel), .drop (.drop (.same (.same .nil))), NoM.of rfl, ?t, fun _ => ?v⟩
      case t =>
        refine EvB.cast (EvB.cmp' (by with_unfolding_all rfl) (EvT.from_ (a := x.1) (k := 6) ⟨EvE.nm .here rfl (by decide +kernel), s1⟩ EvE.oneN (by decide)).1 (EvE.cutT (row := x.2) (EvE.nm (.there .here) rfl (by decide +kernel)) EvP.none (EvP.some (EvE.neg EvE.const_int)) (by have := s2.len; omega)) CmpE.eq_T) ?_
        rw [show cut x.2 none (some (-1)) = cut x.2 none (some (-((1 : Nat) : Int))) from rfl, cut_butLast _ 1 (Nat.le_refl _), l2]
      case v =>
        exact EvT.join (EvT.add (EvT.add (a := r.take f) (k := 6) ⟨EvE.nm (.there (.there .here)) rfl (by decide +kernel), smh⟩ (EvT.from_ (a := x.1) (k := 6) ⟨EvE.nm .here rfl (by decide +kernel), s1⟩ EvE.oneN (by decide)) (by decide)) (b := r.drop (f + d)) (m := 6) ⟨EvE.nm (.there (.there (.there .here))) rfl (by decide +kernel), smt⟩ (by decide)) (by decide) (fun _ => rfl) (fun _ => rfl)
  case len =>
    rw [List.length_map]
    unfold lostF
    split <;> split <;> simp
  case set => rw [tL_eq]; exact st_single
  case no2 => exact NoM.of rfl
end
end Mine
end

-- part MLawD
section

open PySem PySem.W PyProof.Rows
set_option linter.unusedVariables false
set_option maxRecDepth 100000
namespace Mine
theorem inter_len (sep : List Nat) : ∀ ls : List (List Nat), (inter sep ls).length ≤ (ls.map List.length).sum + ls.length * sep.length
  | [] => by simp [inter]
  | [x] => by simp [inter]
  | x :: y :: r => by
    have := inter_len sep (y :: r)
    rw [inter]
    simp only [List.length_append, List.map_cons, List.sum_cons, List.length_cons, Nat.succ_mul] at this ⊢
    omega
theorem Sm.inter {ls : List (List Nat)} {n : Nat} (h : Sm ls n) : (inter dot3 ls).length ≤ 5 * n := by
  have := inter_len dot3 ls
  have := h.sum
  have := h.len
  simp only [List.length_cons, List.length_nil] at *
  omega
theorem SgL.noDot {ls : List (List Nat)} (h : SgL ls) : ∀ p ∈ ls, NoDot p := fun p hp c hc => ((h p hp).lt c hc).2
theorem SgL.small {ls : List (List Nat)} {n : Nat} (h : SgL ls) (hl : ls.length ≤ n) : tot ls ≤ 2 * n ∧ ∀ x ∈ ls, ∀ c ∈ x, c < 128 := ⟨(h.sm hl).sum, fun x hx c hc => ((h x hx).lt c hc).1⟩

section
variable {prog : Program} {w : World} {h₁ : Heap} {mg mb : Str → Option Value} {n : Nat} {rest : List Stmt} {oc : Oc}

set_option maxHeartbeats 4000000 in
theorem law_10 (W : Lw h₁ mg mb) {r o : List (List Nat)} {f d s : Nat} (R : Rw r o f d s) (hr : ExL prog w h₁ (n + 8) (fScope (stm 12)) (lw (tL r) (tL o) (.int (s : Int)) .unset .unset .unset .unset .unset .unset (tL (lostF r o f d s)) (tL (grownF r o f d s)) .unset .unset .unset .unset .unset .unset .unset .unset .unset .unset .unset .unset .unset .unset .unset .unset .unset .unset .unset .unset) rest oc) : ExL prog w h₁ (n + 8) (fScope (stm 12)) (lw (tL r) (tL o) (.int (s : Int)) .unset .unset .unset .unset .unset .unset (tL (lostF r o f d s)) (tL (grownF r o f d s)) .unset .unset .unset .unset .unset .unset (tL (lostF r o f d 1)) .unset .unset .unset .unset .unset .unset .unset .unset .unset .unset .unset .unset .unset) ((fBody (stm 12)).getD 10 noD :: rest) oc := by
  conv => arg 7; arg 1; whnf
  have U := R.U
  have hlo := U.len
  have hN := R.h6
  have h4 := R.h4
  obtain ⟨tm, hmark⟩ := W.mark
  obtain ⟨a5, hf5⟩ := W.f5
  have smr : Sm r 6 := R.hr.sm hN
  have smo : Sm o 6 := R.ho.sm (by omega)
  refine ExL.cons (ExS.for_ (d := .rng r.length) (ds := rngL r.length) ?it (IterE.rng (by omega)) (fun _ => (lw (tL r) (tL o) (.int (s : Int)) .unset .unset .unset .unset .unset .unset (tL (lostF r o f d s)) (tL (grownF r o f d s)) .unset .unset .unset .unset .unset .unset (tL (lostF r o f d 1)) .unset .unset .unset .unset .unset .unset .unset .unset .unset .unset .unset .unset .unset)) rfl r.length (by simp) ?step (.inl ⟨by simp, rfl⟩) (fun _ _ => rfl)) (ExL.weak ?wk hr)
  case it => exact EvE.call_t W.B W.range (by decide +kernel) (by decide +kernel) (fun _ => rfl) (fun _ => rfl) (EvL.cons' (EvE.call_b W.B W.len (by decide +kernel) (by decide +kernel) (fun _ => rfl) (fun _ => rfl) (EvL.cons' (nm_row rfl) EvL.nil (fun _ => rfl)) (CallE.len_T (by omega))) EvL.nil (fun _ => rfl)) CallE.range
  case wk =>
    unfold lw
    repeat' walk_at "m weak"
  case step =>
    intro k d' hk hd
    obtain rfl : D.int (k : Int) = d' := by simpa [hk] using hd
    have sgs : SgL (del r k 1) := R.hr.del k 1
    have hdl : (del r k 1).length = r.length - 1 := del_len r k 1 (by omega)
    have sms : Sm (del r k 1) 6 := sgs.sm (by omega)
    refine ⟨(lw (tL r) (tL o) (.int (s : Int)) .unset .unset .unset .unset .unset .unset (tL (lostF r o f d s)) (tL (grownF r o f d s)) .unset .unset .unset .unset .unset .unset (tL (lostF r o f d 1)) .unset .unset .unset .unset .unset .unset .unset .unset .unset (.int (k : Int)) .unset .unset .unset), AsgE.name st_k (by decide +kernel), ?_⟩
    refine ExL.asg (d := tL (del r k 1)) (fun _ => swaps_bin ..) kn_signs (EvT.add (EvT.upto (k := 6) ⟨(nm_row rfl), smr⟩ (nm_k rfl) (by decide)) (EvT.from_ (k := 6) ⟨(nm_row rfl), smr⟩ (EvE.addN (nm_k rfl) EvE.oneN) (by decide)) (by decide)).1 (σ' := (lw (tL r) (tL o) (.int (s : Int)) .unset .unset .unset .unset .unset .unset (tL (lostF r o f d s)) (tL (grownF r o f d s)) .unset .unset .unset .unset (tL (del r k 1)) .unset (tL (lostF r o f d 1)) .unset .unset .unset .unset .unset .unset .unset .unset .unset (.int (k : Int)) .unset .unset .unset)) st_signs ?_
    refine ExL.asg (d := .bool (decide ((del r k 1).Sublist o))) (fun _ => rfl) kn_told ?told (σ' := (lw (tL r) (tL o) (.int (s : Int)) .unset .unset .unset .unset .unset .unset (tL (lostF r o f d s)) (tL (grownF r o f d s)) .unset .unset .unset .unset (tL (del r k 1)) .unset (tL (lostF r o f d 1)) (.bool (decide ((del r k 1).Sublist o))) .unset .unset .unset .unset .unset .unset .unset .unset (.int (k : Int)) .unset .unset .unset)) st_told ?_
    case told =>
      refine EvE.cast (EvE.cmp' (by with_unfolding_all rfl) (EvT.join (ls := del r k 1) (m := 6) ⟨(nm_signs rfl), sms⟩ (by decide) (fun _ => rfl) (fun _ => rfl)) (nm_single rfl) CmpE.in_T) ?_
      congr 1
      exact decide_eq_decide.mpr (told_iff U R.hr R.ho hk).symm
    refine ExL.cons (σ' := (lw (tL r) (tL o) (.int (s : Int)) .unset .unset .unset .unset .unset .unset (tL (lostF r o f d s)) (tL (grownF r o f d s)) .unset .unset .unset .unset (tL (del r k 1)) .unset (tL (lostF r o f d 1)) (.bool (decide ((del r k 1).Sublist o))) .unset .unset .unset .unset .unset .unset .unset .unset (.int (k : Int)) .unset .unset .unset)) (ExS.if_false ?t1 ExL.nil) (ExL.cons (σ' := (lw (tL r) (tL o) (.int (s : Int)) .unset .unset .unset .unset .unset .unset (tL (lostF r o f d s)) (tL (grownF r o f d s)) .unset .unset .unset .unset (tL (del r k 1)) .unset (tL (lostF r o f d 1)) (.bool (decide ((del r k 1).Sublist o))) .unset .unset .unset .unset .unset .unset .unset .unset (.int (k : Int)) .unset .unset .unset)) (ExS.if_false ?t2 ExL.nil) (ExL.nil_weak ?wk2))
    case wk2 =>
      unfold lw
      repeat' walk_at "m weak"
    case t1 =>
      have sm1 : Sm ([[]] ++ del r k 1 ++ [[]]) 8 := ((Sm.app (n := 1) ⟨by simp, by simp⟩ sms).app (m := 1) ⟨by simp, by simp⟩)
      refine EvB.cast (EvB.cmp' (by with_unfolding_all rfl) (d₁ := .bool (decide ((del r k 1).Sublist o))) ?call (nm_told rfl) CmpE.isnot_bool) (by simp)
      case call =>
        refine EvE.cast (EvE.call_def W.B hf5 (by decide +kernel) (by decide +kernel) (by decide +kernel) (fun _ => rfl) (EvL.cons' (EvT.joinD (EvT.add (EvT.add EvT.empty (b := del r k 1) (m := 6) ⟨(nm_signs rfl), sms⟩ (by decide)) EvT.empty (by decide)) (by decide) (fun _ => rfl) (fun _ => rfl)) (EvL.cons' (EvT.join (ls := o) (m := 6) ⟨(nm_other rfl), smo⟩ (by decide) (fun _ => rfl) (fun _ => rfl)) EvL.nil (fun _ => rfl)) (fun _ => rfl))
          (ell_calls (n := n + 7) W.B W.len hmark hf5 ([[]] ++ del r k 1 ++ [[]]) o.flatten (by simp) ?nd (by have := sm1.inter; omega) (by have := sm1.len; omega) (fun p hp => by have := sm1.each p hp; omega) (by have := smo.flat; omega))) ?_
        case nd =>
          intro p hp
          simp only [List.mem_append, List.mem_singleton] at hp
          rcases hp with (rfl | hp) | rfl
          · intro c hc; cases hc
          · exact sgs.noDot p hp
          · intro c hc; cases hc
        rw [ell_dots0 sgs R.ho]
    case t2 =>
      refine EvB.cast (EvB.cmp' (by with_unfolding_all rfl) (d₁ := .bool (decide ((del r k 1).Sublist o) && (decide ((del r k 1).getD 0 [] = o.getD 0 []) && decide ((del r k 1).getD ((del r k 1).length - 1) [] = o.getD (o.length - 1) [])))) ?call
        (EvE.andC (nm_told rfl) fun _ => EvE.and2 (EvE.cmp' (by with_unfolding_all rfl) (EvE.at (k := 0) (fun _ _ => rfl) (nm_signs rfl) EvE.const_int (by omega) (by decide)) (EvE.at (k := 0) (fun _ _ => rfl) (nm_other rfl) EvE.const_int (by omega) (by decide)) CmpE.eq_t)
          fun _ => EvE.cmp' (by with_unfolding_all rfl) (EvE.atLast (k := 0) (nm_signs rfl) (by omega)) (EvE.atLast (k := 0) (nm_other rfl) (by omega)) CmpE.eq_t) CmpE.isnot_bool) (by simp)
      case call =>
        refine EvE.cast (EvE.call_def W.B hf5 (by decide +kernel) (by decide +kernel) (by decide +kernel) (fun _ => rfl) (EvL.cons' (EvT.joinD (ls := del r k 1) (m := 6) ⟨(nm_signs rfl), sms⟩ (by decide) (fun _ => rfl) (fun _ => rfl)) (EvL.cons' (EvT.join (ls := o) (m := 6) ⟨(nm_other rfl), smo⟩ (by decide) (fun _ => rfl) (fun _ => rfl)) EvL.nil (fun _ => rfl)) (fun _ => rfl))
          (ell_calls (n := n + 7) W.B W.len hmark hf5 (del r k 1) o.flatten (by omega) sgs.noDot (by have := sms.inter; omega) (by omega) (fun p hp => by have := sms.each p hp; omega) (by have := smo.flat; omega))) ?_
        rw [ell_mid sgs R.ho (by omega) (by omega)]

set_option maxHeartbeats 4000000 in
theorem law_11 (W : Lw h₁ mg mb) {r o : List (List Nat)} {f d s : Nat} (R : Rw r o f d s) (hr : ExL prog w h₁ (n + 8) (fScope (stm 12)) (lw (tL r) (tL o) (.int (s : Int)) .unset .unset .unset .unset .unset .unset (tL (lostF r o f d s)) (tL (grownF r o f d s)) .unset .unset .unset .unset .unset .unset .unset .unset (.rng (r.length - s + 1)) .unset .unset .unset .unset .unset .unset .unset .unset .unset .unset .unset) rest oc) : ExL prog w h₁ (n + 8) (fScope (stm 12)) (lw (tL r) (tL o) (.int (s : Int)) .unset .unset .unset .unset .unset .unset (tL (lostF r o f d s)) (tL (grownF r o f d s)) .unset .unset .unset .unset .unset .unset .unset .unset .unset .unset .unset .unset .unset .unset .unset .unset .unset .unset .unset .unset) ((fBody (stm 12)).getD 11 noD :: rest) oc := by
  conv => arg 7; arg 1; whnf
  have hN := R.h6
  have h4 := R.h4
  have hs3 := R.hs3
  refine ExL.asg (d := .rng (r.length - s + 1)) (fun _ => swaps_call ..) kn_places ?v st_places hr
  case v => exact EvE.call_t W.B W.range (by decide +kernel) (by decide +kernel) (fun _ => rfl) (fun _ => rfl) (EvL.cons' (EvE.addN (EvE.subN (EvE.call_b W.B W.len (by decide +kernel) (by decide +kernel) (fun _ => rfl) (fun _ => rfl) (EvL.cons' (nm_row rfl) EvL.nil (fun _ => rfl)) (CallE.len_T (by omega))) (nm_size rfl) (by omega)) EvE.oneN) EvL.nil (fun _ => rfl)) CallE.range

set_option maxHeartbeats 4000000 in
theorem law_12 (W : Lw h₁ mg mb) {r o : List (List Nat)} {f d s : Nat} (R : Rw r o f d s) (hr : ExL prog w h₁ (n + 8) (fScope (stm 12)) (lw (tL r) (tL o) (.int (s : Int)) .unset .unset .unset .unset .unset .unset (tL (lostF r o f d s)) (tL (grownF r o f d s)) .unset .unset .unset .unset .unset .unset .unset .unset (.rng (r.length - s + 1)) (tL (leftF r s)) (tL (leftF o s)) .unset .unset .unset .unset .unset .unset .unset .unset .unset) rest oc) : ExL prog w h₁ (n + 8) (fScope (stm 12)) (lw (tL r) (tL o) (.int (s : Int)) .unset .unset .unset .unset .unset .unset (tL (lostF r o f d s)) (tL (grownF r o f d s)) .unset .unset .unset .unset .unset .unset .unset .unset (.rng (r.length - s + 1)) .unset .unset .unset .unset .unset .unset .unset .unset .unset .unset .unset) ((fBody (stm 12)).getD 12 noD :: rest) oc := by
  conv => arg 7; arg 1; whnf
  have hN := R.h6
  have h4 := R.h4
  have hs3 := R.hs3
  have hlo := R.U.len
  obtain ⟨a1, hf1⟩ := W.f1
  obtain ⟨a2, hf2⟩ := W.f2
  obtain ⟨a9, hf9⟩ := W.f9
  refine ExL.asg2n (d₁ := tL (leftF r s)) (d₂ := tL (leftF o s)) (fun _ => rfl) (by intro env h; cases env; cases h; rfl) kn_left kn_right ?v st_left st_right hr
  case v =>
    refine EvE.tuple' (EvL.cons' ?x (EvL.cons' ?y EvL.nil (fun _ => rfl)) (fun _ => rfl)) (by simp)
    case x =>
      refine EvE.compT (ds := rngL (r.length - s + 1)) (σc := [(Str.ofString "k", .unset), (Str.ofString "row", tL r), (Str.ofString "size", .int (s : Int))]) (d := .rng (r.length - s + 1)) (out := (List.range (r.length - s + 1)).map fun k => tx (del r k s).flatten) (fun _ _ => rfl) (nm_places rfl) (IterE.rng (by omega)) ?caps (LoopE.each (l := List.range (r.length - s + 1)) (c := fun i : Nat => D.int (i : Int)) (σm := fun k : Nat => [(Str.ofString "k", .int (k : Int)), (Str.ofString "row", tL r), (Str.ofString "size", .int (s : Int))]) intD_inj (NoM.of rfl) ?item) (by simp; omega) (by rw [leftF, List.map_map]; rfl)
      case caps =>
        refine caps_of (σt := [(Str.ofString "k", .unset)]) (σk := [(Str.ofString "row", tL r), (Str.ofString "size", .int (s : Int))]) (fr := [Str.ofString "row", Str.ofString "size"]) (by decide +kernel) ?_ (by simp) ?_ (by show List.Nodup [Str.ofString "k", Str.ofString "row", Str.ofString "size"]; decide +kernel) (by decide +kernel)
        · exact List.forall_mem_cons.mpr ⟨⟨by decide +kernel, _, lk_row, rfl⟩, List.forall_mem_cons.mpr ⟨⟨by decide +kernel, _, lk_size, rfl⟩, List.forall_mem_nil _⟩⟩
        · exact List.forall_mem_cons.mpr ⟨⟨lk_row, rfl, by dsimp only; decide +kernel⟩, List.forall_mem_cons.mpr ⟨⟨lk_size, rfl, by dsimp only; decide +kernel⟩, List.forall_mem_nil _⟩⟩
      case item =>
        intro k hk
        obtain ⟨t1, t2⟩ := R.hr.small hN
        refine ⟨AsgE.name Set1.here (by decide +kernel), .drop (.same (.same .nil)), NoM.of rfl, ?_⟩
        exact EvE.cast (EvE.call_def W.B hf9 (by decide +kernel) (by decide +kernel) (by decide +kernel) (fun _ => rfl) (EvL.cons' (EvE.nm (.there .here) rfl (by decide +kernel)) (EvL.cons' (EvE.nm .here rfl (by decide +kernel)) (EvL.cons' (EvE.nm (.there (.there .here)) rfl (by decide +kernel)) EvL.nil (fun _ => rfl)) (fun _ => rfl)) (fun _ => rfl)) (hide_calls (n := n + 4) W.B W.len W.enum hf1 hf2 hf9 r k s (by omega) (by omega) t2)) (by rw [hide_sg R.hr])
    case y =>
      refine EvE.compT (ds := rngL (r.length - s + 1)) (σc := [(Str.ofString "k", .unset), (Str.ofString "other", tL o), (Str.ofString "size", .int (s : Int))]) (d := .rng (r.length - s + 1)) (out := (List.range (r.length - s + 1)).map fun k => tx (del o k s).flatten) (fun _ _ => rfl) (nm_places rfl) (IterE.rng (by omega)) ?caps (LoopE.each (l := List.range (r.length - s + 1)) (c := fun i : Nat => D.int (i : Int)) (σm := fun k : Nat => [(Str.ofString "k", .int (k : Int)), (Str.ofString "other", tL o), (Str.ofString "size", .int (s : Int))]) intD_inj (NoM.of rfl) ?item) (by simp; omega) (by rw [leftF, ← hlo, List.map_map]; rfl)
      case caps =>
        refine caps_of (σt := [(Str.ofString "k", .unset)]) (σk := [(Str.ofString "other", tL o), (Str.ofString "size", .int (s : Int))]) (fr := [Str.ofString "other", Str.ofString "size"]) (by decide +kernel) ?_ (by simp) ?_ (by show List.Nodup [Str.ofString "k", Str.ofString "other", Str.ofString "size"]; decide +kernel) (by decide +kernel)
        · exact List.forall_mem_cons.mpr ⟨⟨by decide +kernel, _, lk_other, rfl⟩, List.forall_mem_cons.mpr ⟨⟨by decide +kernel, _, lk_size, rfl⟩, List.forall_mem_nil _⟩⟩
        · exact List.forall_mem_cons.mpr ⟨⟨lk_other, rfl, by dsimp only; decide +kernel⟩, List.forall_mem_cons.mpr ⟨⟨lk_size, rfl, by dsimp only; decide +kernel⟩, List.forall_mem_nil _⟩⟩
      case item =>
        intro k hk
        obtain ⟨t1, t2⟩ := R.ho.small (show o.length ≤ 6 by omega)
        refine ⟨AsgE.name Set1.here (by decide +kernel), .drop (.same (.same .nil)), NoM.of rfl, ?_⟩
        exact EvE.cast (EvE.call_def W.B hf9 (by decide +kernel) (by decide +kernel) (by decide +kernel) (fun _ => rfl) (EvL.cons' (EvE.nm (.there .here) rfl (by decide +kernel)) (EvL.cons' (EvE.nm .here rfl (by decide +kernel)) (EvL.cons' (EvE.nm (.there (.there .here)) rfl (by decide +kernel)) EvL.nil (fun _ => rfl)) (fun _ => rfl)) (fun _ => rfl)) (hide_calls (n := n + 4) W.B W.len W.enum hf1 hf2 hf9 o k s (by omega) (by omega) t2)) (by rw [hide_sg R.ho])

set_option maxHeartbeats 4000000 in
theorem law_13 (W : Lw h₁ mg mb) {r o : List (List Nat)} {f d s : Nat} (R : Rw r o f d s) (hr : ExL prog w h₁ (n + 8) (fScope (stm 12)) (lw (tL r) (tL o) (.int (s : Int)) .unset .unset .unset .unset .unset .unset .unset (tL (grownF r o f d s)) .unset .unset .unset .unset .unset .unset .unset .unset (.rng (r.length - s + 1)) (tL (leftF r s)) (tL (leftF o s)) .unset .unset .unset .unset .unset .unset .unset .unset .unset) rest oc) : ExL prog w h₁ (n + 8) (fScope (stm 12)) (lw (tL r) (tL o) (.int (s : Int)) .unset .unset .unset .unset .unset .unset (tL (lostF r o f d s)) (tL (grownF r o f d s)) .unset .unset .unset .unset .unset .unset .unset .unset (.rng (r.length - s + 1)) (tL (leftF r s)) (tL (leftF o s)) .unset .unset .unset .unset .unset .unset .unset .unset .unset) ((fBody (stm 12)).getD 13 noD :: rest) oc := by
  conv => arg 7; arg 1; whnf
  have hN := R.h6
  have hs := R.hs
  have h4 := R.h4
  have ll : (leftF r s).length ≤ 6 := by unfold leftF; simp; omega
  have lf : ((leftF r s).filter fun t => decide (t ∈ leftF o s)).length ≤ 6 := Nat.le_trans (List.length_filter_le _ _) ll
  have llo : (lostF r o f d s).length ≤ 6 := by unfold lostF; split <;> split <;> simp
  refine ExL.cons (σ' := (lw (tL r) (tL o) (.int (s : Int)) .unset .unset .unset .unset .unset .unset (tL (lostF r o f d s)) (tL (grownF r o f d s)) .unset .unset .unset .unset .unset .unset .unset .unset (.rng (r.length - s + 1)) (tL (leftF r s)) (tL (leftF o s)) .unset .unset .unset .unset .unset .unset .unset .unset .unset)) (ExS.if_false ?t ExL.nil) (ExL.weak ?wk hr)
  case wk =>
    unfold lw
    repeat' walk_at "m weak"
  case t =>
    refine EvB.cast (EvB.cmp' (by with_unfolding_all rfl) (EvE.sorted_set W.B W.sorted W.set (by decide +kernel) (by decide +kernel) (fun _ => rfl) (row := (leftF r s).filter fun t => decide (t ∈ leftF o s)) (by omega) ?comp) (EvE.sorted_set W.B W.sorted W.set (by decide +kernel) (by decide +kernel) (fun _ => rfl) (row := lostF r o f d s) (by omega) (nm_lost rfl)) CmpE.ne_T) ?e
    case e => rw [lost_sorted R.U R.hr R.ho R.hs R.hsd]; simp
    case comp =>
      refine EvE.compT (ds := (leftF r s).map tx) (σc := [(Str.ofString "text", .unset), (Str.ofString "right", tL (leftF o s))]) (d := tL (leftF r s)) (out := ((leftF r s).filter fun t => decide (t ∈ leftF o s)).map tx) (fun _ _ => rfl) (nm_left rfl) IterE.T ?caps (LoopE.filt (l := leftF r s) (c := tx) (v := tx) (σm := fun t => [(Str.ofString "text", tx t), (Str.ofString "right", tL (leftF o s))]) tx_inj (NoM.of rfl) ?item) (by rw [List.length_map]; omega) rfl
      case caps =>
        refine caps_of (σt := [(Str.ofString "text", .unset)]) (σk := [(Str.ofString "right", tL (leftF o s))]) (fr := [Str.ofString "right"]) (by decide +kernel) ?_ (by simp) ?_ (by show List.Nodup [Str.ofString "text", Str.ofString "right"]; decide +kernel) (by decide +kernel)
        · exact List.forall_mem_cons.mpr ⟨⟨by decide +kernel, _, lk_right, rfl⟩, List.forall_mem_nil _⟩
        · exact List.forall_mem_cons.mpr ⟨⟨lk_right, rfl, by dsimp only; decide +kernel⟩, List.forall_mem_nil _⟩
      case item =>
        intro t ht
        exact ⟨AsgE.name Set1.here (by decide +kernel), .drop (.same .nil), NoM.of rfl, EvB.cmp' (by with_unfolding_all rfl) (EvE.nm .here rfl (by decide +kernel)) (EvE.nm (.there .here) rfl (by decide +kernel)) CmpE.in_T, fun _ => EvE.nm .here rfl (by decide +kernel)⟩
end
end Mine
end

-- part MLawE
section

open PySem PySem.W PyProof.Rows
set_option linter.unusedVariables false
set_option maxRecDepth 100000
namespace Mine
theorem pats_ok {T : List (List Nat)} (h : SgL T) (hl : T.length ≤ 12) : ∀ p ∈ patsOf T, PatOk p := fun p hp => by
  unfold patsOf at hp
  obtain ⟨k, hk, rfl⟩ := List.mem_map.mp hp
  have h1 := ((h.take k).sm (n := 12) (by simp; omega)).flat
  have h2 := ((h.drop k).sm (n := 12) (by simp; omega)).flat
  have nd : ∀ {l : List (List Nat)}, SgL l → NoDot l.flatten := fun hl c hc => by
    obtain ⟨x, hx, hcx⟩ := List.mem_flatten.mp hc
    exact ((hl x hx).lt c hcx).2
  refine ⟨by simp, ?_, ?_, by simp, ?_⟩
  · intro p hp
    rcases List.mem_cons.mp hp with rfl | hp
    · exact nd (h.take k)
    · rcases List.mem_cons.mp hp with rfl | hp
      · exact nd (h.drop k)
      · cases hp
  · have := inter_len dot3 [(T.take k).flatten, (T.drop k).flatten]
    simp only [List.map_cons, List.map_nil, List.sum_cons, List.sum_nil, List.length_cons, List.length_nil] at this
    omega
  · intro p hp
    rcases List.mem_cons.mp hp with rfl | hp
    · omega
    · rcases List.mem_cons.mp hp with rfl | hp
      · omega
      · cases hp
theorem srt_dd_mem {l : List (List Nat)} {t : List Nat} : t ∈ srt (dd l) ↔ t ∈ l := by rw [(srt_perm _).mem_iff, dd_mem]
theorem texts_len (r o : List (List Nat)) (s : Nat) : (textsF r o s).length = (r.length + 1) * (r.length - s + 1) := by
  unfold textsF
  rw [List.length_flatMap]
  simp [List.map_const']
theorem texts_small {r o : List (List Nat)} {s : Nat} (hr : SgL r) (ho : SgL o) (h6 : r.length ≤ 6) (h6' : o.length ≤ 6) {t : List Nat} (h : t ∈ textsF r o s) : t.length ≤ 900 := by
  unfold textsF at h
  obtain ⟨k, hk, h⟩ := List.mem_flatMap.mp h
  obtain ⟨m, hm, rfl⟩ := List.mem_map.mp h
  have := (((((hr.take k).sm (n := 6) (by simp; omega)).app (((ho.take (m + s)).drop m).sm (n := 6) (by simp; omega))).app ((hr.drop k).sm (n := 6) (by simp; omega)))).flat
  show (r.take k ++ (o.take (m + s)).drop m ++ r.drop k).flatten.length ≤ 900
  omega
theorem left_of {r : List (List Nat)} {s : Nat} (hr : SgL r) (hs : s ≤ r.length) {t : List Nat} (h : t ∈ leftF r s) : ∃ T, SgL T ∧ T.length + s = r.length ∧ t = T.flatten := by
  obtain ⟨k, hk, rfl⟩ := (leftF_mem hs).mp h
  exact ⟨del r k s, hr.del k s, by rw [del_len r k s hk]; omega, rfl⟩
theorem filter_no (l : List (List Nat)) : l.filter (fun _ => false) = [] := List.filter_eq_nil_iff.mpr fun _ _ h => by cases h

section
variable {prog : Program} {w : World} {h₁ : Heap} {mg mb : Str → Option Value} {n : Nat} {rest : List Stmt} {oc : Oc}

set_option maxHeartbeats 4000000 in
theorem law_14 (W : Lw h₁ mg mb) {r o : List (List Nat)} {f d s : Nat} (R : Rw r o f d s) (hr : ExL prog w h₁ (n + 8) (fScope (stm 12)) (lw (tL r) (tL o) (.int (s : Int)) .unset .unset .unset .unset .unset .unset .unset (tL (grownF r o f d s)) .unset .unset .unset .unset .unset .unset .unset .unset (.rng (r.length - s + 1)) (tL (leftF r s)) (tL (leftF o s)) .unset .unset .unset .unset .unset .unset .unset .unset .unset) rest oc) : ExL prog w h₁ (n + 8) (fScope (stm 12)) (lw (tL r) (tL o) (.int (s : Int)) .unset .unset .unset .unset .unset .unset .unset (tL (grownF r o f d s)) .unset .unset .unset .unset .unset .unset .unset .unset (.rng (r.length - s + 1)) (tL (leftF r s)) (tL (leftF o s)) .unset .unset .unset .unset .unset .unset .unset .unset .unset) ((fBody (stm 12)).getD 14 noD :: rest) oc := by
  conv => arg 7; arg 1; whnf
  have hN := R.h6
  have h4 := R.h4
  have hs := R.hs
  have hs3 := R.hs3
  have hlo := R.U.len
  obtain ⟨tm, hmark⟩ := W.mark
  obtain ⟨a5, hf5⟩ := W.f5
  obtain ⟨a8, hf8⟩ := W.f8
  obtain ⟨a10, hf10⟩ := W.f10
  obtain ⟨a11, hf11⟩ := W.f11
  have smr : Sm r 6 := R.hr.sm hN
  have smo : Sm o 6 := R.ho.sm (by omega)
  have ll : (leftF r s).length ≤ 6 := by unfold leftF; simp; omega
  have lo : (leftF o s).length ≤ 6 := by unfold leftF; simp; omega
  refine ExL.cons (ExS.for_ (d := tL (srt (dd (leftF r s ++ leftF o s)))) (ds := (srt (dd (leftF r s ++ leftF o s))).map tx) ?it IterE.T (fun _ => (lw (tL r) (tL o) (.int (s : Int)) .unset .unset .unset .unset .unset .unset .unset (tL (grownF r o f d s)) .unset .unset .unset .unset .unset .unset .unset .unset (.rng (r.length - s + 1)) (tL (leftF r s)) (tL (leftF o s)) .unset .unset .unset .unset .unset .unset .unset .unset .unset)) rfl (srt (dd (leftF r s ++ leftF o s))).length (by simp) ?step (.inl ⟨by simp, rfl⟩) (fun _ _ => rfl)) hr
  case it => exact EvE.sorted_set W.B W.sorted W.set (by decide +kernel) (by decide +kernel) (fun _ => rfl) (by rw [List.length_append]; omega) (EvE.binop (nm_left rfl) (nm_right rfl) (OpE.add_T (by omega)))
  case step =>
    intro i d' hi hd
    rw [List.getElem?_map] at hd
    obtain ⟨t, ht, rfl⟩ := Option.map_eq_some_iff.mp hd
    have hm := List.mem_append.mp (srt_dd_mem.mp (List.mem_of_getElem? ht))
    have hT : ∃ T, SgL T ∧ T.length + s = r.length ∧ t = T.flatten := hm.elim (left_of R.hr (by omega)) fun h => by
      obtain ⟨T, a, b, c⟩ := left_of R.ho (by omega) h
      exact ⟨T, a, by omega, c⟩
    obtain ⟨T, sgT, lenT, rfl⟩ := hT
    refine ⟨(lw (tL r) (tL o) (.int (s : Int)) .unset .unset .unset .unset .unset .unset .unset (tL (grownF r o f d s)) .unset .unset .unset .unset .unset .unset .unset .unset (.rng (r.length - s + 1)) (tL (leftF r s)) (tL (leftF o s)) (tx T.flatten) .unset .unset .unset .unset .unset .unset .unset .unset), AsgE.name st_text (by decide +kernel), ?_⟩
    refine ExL.asg (d := tL (dotsF T)) (fun _ => swaps_call ..) kn_dots ?dots (σ' := (lw (tL r) (tL o) (.int (s : Int)) .unset .unset .unset .unset .unset .unset .unset (tL (grownF r o f d s)) .unset .unset .unset .unset .unset .unset .unset .unset (.rng (r.length - s + 1)) (tL (leftF r s)) (tL (leftF o s)) (tx T.flatten) (tL (dotsF T)) .unset .unset .unset .unset .unset .unset .unset)) st_dots ?_
    case dots =>
      refine EvE.call_def W.B hf10 (by decide +kernel) (by decide +kernel) (by decide +kernel) (fun _ => rfl) (EvL.cons' (EvE.call_def W.B hf8 (by decide +kernel) (by decide +kernel) (by decide +kernel) (fun _ => rfl) (EvL.cons' (nm_text rfl) EvL.nil (fun _ => rfl)) (signs_calls (n := n + 7) W.B W.len hf8 T sgT (by omega))) EvL.nil (fun _ => rfl)) (dots_calls (n := n + 7) W.B W.len W.range hf10 T (by omega) (by have := (sgT.sm (n := 6) (by omega)).sum; show (T.map List.length).sum ≤ 1000; omega))
    refine ExL.cons (σ' := (lw (tL r) (tL o) (.int (s : Int)) .unset .unset .unset .unset .unset .unset .unset (tL (grownF r o f d s)) .unset .unset .unset .unset .unset .unset .unset .unset (.rng (r.length - s + 1)) (tL (leftF r s)) (tL (leftF o s)) (tx T.flatten) (tL (dotsF T)) .unset .unset .unset .unset .unset .unset .unset)) (ExS.if_false (EvB.orFF ?t1 ?t2) ExL.nil) (ExL.nil_weak ?wk2)
    case wk2 =>
      unfold lw
      repeat' walk_at "m weak"
    case t1 =>
      refine EvB.cast (EvB.cmp' (by with_unfolding_all rfl) (EvE.call_def W.B hf11 (by decide +kernel) (by decide +kernel) (by decide +kernel) (fun _ => rfl) (EvL.cons' (EvE.cast (nm_dots rfl) (by rw [dots_pats])) (EvL.cons' (EvT.join (ls := r) (m := 6) ⟨(nm_row rfl), smr⟩ (by decide) (fun _ => rfl) (fun _ => rfl)) EvL.nil (fun _ => rfl)) (fun _ => rfl)) (fits_calls (n := n + 6) W.B W.len hmark hf5 hf11 (patsOf T) r.flatten (pats_ok sgT (by omega)) (by have := smr.flat; omega))) (EvE.cmp' (by with_unfolding_all rfl) (nm_text rfl) (nm_left rfl) CmpE.in_T) CmpE.ne_bool) ?_
      rw [fits_left sgT R.hr lenT]; simp
    case t2 =>
      refine EvB.cast (EvB.cmp' (by with_unfolding_all rfl) (EvE.call_def W.B hf11 (by decide +kernel) (by decide +kernel) (by decide +kernel) (fun _ => rfl) (EvL.cons' (EvE.cast (nm_dots rfl) (by rw [dots_pats])) (EvL.cons' (EvT.join (ls := o) (m := 6) ⟨(nm_other rfl), smo⟩ (by decide) (fun _ => rfl) (fun _ => rfl)) EvL.nil (fun _ => rfl)) (fun _ => rfl)) (fits_calls (n := n + 6) W.B W.len hmark hf5 hf11 (patsOf T) o.flatten (pats_ok sgT (by omega)) (by have := smo.flat; omega))) (EvE.cmp' (by with_unfolding_all rfl) (nm_text rfl) (nm_right rfl) CmpE.in_T) CmpE.ne_bool) ?_
      rw [fits_left sgT R.ho (by omega : T.length + s = o.length)]; simp

set_option maxHeartbeats 4000000 in
theorem law_15 (W : Lw h₁ mg mb) {r o : List (List Nat)} {f d s : Nat} (R : Rw r o f d s) (hr : ExL prog w h₁ (n + 8) (fScope (stm 12)) (lw (tL r) (tL o) (.int (s : Int)) .unset .unset .unset .unset .unset .unset .unset (tL (grownF r o f d s)) .unset .unset .unset .unset .unset .unset .unset .unset (.rng (r.length - s + 1)) (tL (leftF r s)) (tL (leftF o s)) .unset .unset (tL (textsF r o s)) .unset .unset .unset .unset .unset .unset) rest oc) : ExL prog w h₁ (n + 8) (fScope (stm 12)) (lw (tL r) (tL o) (.int (s : Int)) .unset .unset .unset .unset .unset .unset .unset (tL (grownF r o f d s)) .unset .unset .unset .unset .unset .unset .unset .unset (.rng (r.length - s + 1)) (tL (leftF r s)) (tL (leftF o s)) .unset .unset .unset .unset .unset .unset .unset .unset .unset) ((fBody (stm 12)).getD 15 noD :: rest) oc := by
  conv => arg 7; arg 1; whnf
  have hN := R.h6
  have h4 := R.h4
  have hs := R.hs
  have hs3 := R.hs3
  have hlo := R.U.len
  have smr : Sm r 6 := R.hr.sm hN
  have smo : Sm o 6 := R.ho.sm (by omega)
  have tl : (textsF r o s).length ≤ 42 := by
    rw [texts_len]; exact Nat.mul_le_mul (show r.length + 1 ≤ 7 by omega) (show r.length - s + 1 ≤ 6 by omega)
  have e : ((rngL (r.length + 1)).flatMap fun d => match d with | .int i => (List.range (r.length - s + 1)).map fun m => tx (ins r i.toNat ((o.take (m + s)).drop m)).flatten | _ => []) = (textsF r o s).map tx := by
    unfold textsF
    rw [List.flatMap_map, List.map_flatMap]
    congr 1
    funext k
    rw [List.map_map]; rfl
  refine ExL.cons (ExS.assign_comp (σc := [(Str.ofString "k", .unset), (Str.ofString "m", .unset), (Str.ofString "other", tL o), (Str.ofString "places", .rng (r.length - s + 1)), (Str.ofString "row", tL r), (Str.ofString "size", .int (s : Int))]) (d := .rng (r.length + 1)) (ds := rngL (r.length + 1)) (out := (textsF r o s).map tx) (σ' := (lw (tL r) (tL o) (.int (s : Int)) .unset .unset .unset .unset .unset .unset .unset (tL (grownF r o f d s)) .unset .unset .unset .unset .unset .unset .unset .unset (.rng (r.length - s + 1)) (tL (leftF r s)) (tL (leftF o s)) .unset .unset (tL (textsF r o s)) .unset .unset .unset .unset .unset .unset)) ?it (IterE.rng (by omega)) ?caps ?loop ?len ?set ?no2 (by decide +kernel) (by intro env h; cases env; cases h; rfl)) hr
  case it => exact EvE.call_t W.B W.range (by decide +kernel) (by decide +kernel) (fun _ => rfl) (fun _ => rfl) (EvL.cons' (EvE.addN (EvE.call_b W.B W.len (by decide +kernel) (by decide +kernel) (fun _ => rfl) (fun _ => rfl) (EvL.cons' (nm_row rfl) EvL.nil (fun _ => rfl)) (CallE.len_T (by omega))) EvE.oneN) EvL.nil (fun _ => rfl)) CallE.range
  case caps =>
    refine caps_of (σt := [(Str.ofString "k", .unset), (Str.ofString "m", .unset)]) (σk := [(Str.ofString "other", tL o), (Str.ofString "places", .rng (r.length - s + 1)), (Str.ofString "row", tL r), (Str.ofString "size", .int (s : Int))]) (fr := [Str.ofString "other", Str.ofString "places", Str.ofString "row", Str.ofString "size"]) (by decide +kernel) ?_ (by simp) ?_ (by show List.Nodup [Str.ofString "k", Str.ofString "m", Str.ofString "other", Str.ofString "places", Str.ofString "row", Str.ofString "size"]; decide +kernel) (by decide +kernel)
    · exact List.forall_mem_cons.mpr ⟨⟨by decide +kernel, _, lk_other, rfl⟩, List.forall_mem_cons.mpr ⟨⟨by decide +kernel, _, lk_places, rfl⟩, List.forall_mem_cons.mpr ⟨⟨by decide +kernel, _, lk_row, rfl⟩, List.forall_mem_cons.mpr ⟨⟨by decide +kernel, _, lk_size, rfl⟩, List.forall_mem_nil _⟩⟩⟩⟩
    · exact List.forall_mem_cons.mpr ⟨⟨lk_other, rfl, by dsimp only; decide +kernel⟩, List.forall_mem_cons.mpr ⟨⟨lk_places, rfl, by dsimp only; decide +kernel⟩, List.forall_mem_cons.mpr ⟨⟨lk_row, rfl, by dsimp only; decide +kernel⟩, List.forall_mem_cons.mpr ⟨⟨lk_size, rfl, by dsimp only; decide +kernel⟩, List.forall_mem_nil _⟩⟩⟩⟩
  case loop =>
    rw [← e]
    refine LoopE.two (NoM.of rfl) (fun _ _ => rfl) (fun d' hd => ?_)
    obtain ⟨k, hk, rfl⟩ := List.mem_map.mp hd
    refine ⟨[(Str.ofString "k", .int (k : Int)), (Str.ofString "m", .unset), (Str.ofString "other", tL o), (Str.ofString "places", .rng (r.length - s + 1)), (Str.ofString "row", tL r), (Str.ofString "size", .int (s : Int))], .rng (r.length - s + 1), rngL (r.length - s + 1), AsgE.name Set1.here (by decide +kernel), .drop (.same (.same (.same (.same (.same .nil))))), NoM.of rfl, EvE.nm (.there (.there (.there .here))) rfl (by decide +kernel), IterE.rng (by omega), ?_⟩
    show LoopE prog w h₁ (n + 8) _ _ _ 1 _ ((List.range (r.length - s + 1)).map fun m => tx (ins r k ((o.take (m + s)).drop m)).flatten)
    rw [← flatMap_one]
    rw [show ((List.range (r.length - s + 1)).flatMap fun m => [tx (ins r k ((o.take (m + s)).drop m)).flatten]) = (rngL (r.length - s + 1)).flatMap (fun d => match d with | .int m => [tx (ins r k ((o.take (m.toNat + s)).drop m.toNat)).flatten] | _ => []) by rw [List.flatMap_map]; rfl]
    refine LoopE.second (NoM.of rfl) (fun d' hd => ?_)
    obtain ⟨m, hm, rfl⟩ := List.mem_map.mp hd
    refine ⟨[(Str.ofString "k", .int (k : Int)), (Str.ofString "m", .int (m : Int)), (Str.ofString "other", tL o), (Str.ofString "places", .rng (r.length - s + 1)), (Str.ofString "row", tL r), (Str.ofString "size", .int (s : Int))], AsgE.name (.there .here) (by decide +kernel), .same (.drop (.same (.same (.same (.same .nil))))), NoM.of rfl, .inl ⟨rfl, _, ?_, rfl⟩⟩
    exact EvT.join (EvT.add (EvT.add (EvT.upto (a := r) (k := 6) ⟨EvE.nm (.there (.there (.there (.there .here)))) rfl (by decide +kernel), smr⟩ (EvE.nm .here rfl (by decide +kernel)) (by decide)) (EvT.both (a := o) (k := 6) ⟨EvE.nm (.there (.there .here)) rfl (by decide +kernel), smo⟩ (EvE.nm (.there .here) rfl (by decide +kernel)) (EvE.addN (EvE.nm (.there .here) rfl (by decide +kernel)) (EvE.nm (.there (.there (.there (.there (.there .here))))) rfl (by decide +kernel))) (by decide)) (by decide)) (EvT.from_ (a := r) (k := 6) ⟨EvE.nm (.there (.there (.there (.there .here)))) rfl (by decide +kernel), smr⟩ (EvE.nm .here rfl (by decide +kernel)) (by decide)) (by decide)) (by decide) (fun _ => rfl) (fun _ => rfl)
  case len => rw [List.length_map]; omega
  case set => rw [tL_eq]; exact st_texts
  case no2 => exact NoM.of rfl

set_option maxHeartbeats 4000000 in
theorem law_16 (W : Lw h₁ mg mb) {r o : List (List Nat)} {f d s : Nat} (R : Rw r o f d s) (hr : ExL prog w h₁ (n + 8) (fScope (stm 12)) (lw (tL r) (tL o) (.int (s : Int)) .unset .unset .unset .unset .unset .unset .unset (tL (grownF r o f d s)) .unset .unset .unset .unset .unset .unset .unset .unset (.rng (r.length - s + 1)) (tL (leftF r s)) (tL (leftF o s)) .unset .unset (tL (textsF r o s)) (tL (dotsF o)) (tL (dotsF r)) .unset .unset .unset .unset) rest oc) : ExL prog w h₁ (n + 8) (fScope (stm 12)) (lw (tL r) (tL o) (.int (s : Int)) .unset .unset .unset .unset .unset .unset .unset (tL (grownF r o f d s)) .unset .unset .unset .unset .unset .unset .unset .unset (.rng (r.length - s + 1)) (tL (leftF r s)) (tL (leftF o s)) .unset .unset (tL (textsF r o s)) .unset .unset .unset .unset .unset .unset) ((fBody (stm 12)).getD 16 noD :: rest) oc := by
  conv => arg 7; arg 1; whnf
  have hN := R.h6
  have hlo := R.U.len
  obtain ⟨a10, hf10⟩ := W.f10
  obtain ⟨t1, _⟩ := R.hr.small hN
  obtain ⟨t2, _⟩ := R.ho.small (show o.length ≤ 6 by omega)
  refine ExL.asg2n (d₁ := tL (dotsF o)) (d₂ := tL (dotsF r)) (fun _ => rfl) (by intro env h; cases env; cases h; rfl) kn_grows kn_keeps ?v st_grows st_keeps hr
  case v =>
    exact EvE.tuple' (EvL.cons' (EvE.call_def W.B hf10 (by decide +kernel) (by decide +kernel) (by decide +kernel) (fun _ => rfl) (EvL.cons' (nm_other rfl) EvL.nil (fun _ => rfl)) (dots_calls (n := n + 7) W.B W.len W.range hf10 o (by omega) (by omega))) (EvL.cons' (EvE.call_def W.B hf10 (by decide +kernel) (by decide +kernel) (by decide +kernel) (fun _ => rfl) (EvL.cons' (nm_row rfl) EvL.nil (fun _ => rfl)) (dots_calls (n := n + 7) W.B W.len W.range hf10 r (by omega) (by omega))) EvL.nil (fun _ => rfl)) (fun _ => rfl)) (by simp)

set_option maxHeartbeats 4000000 in
theorem law_17 (W : Lw h₁ mg mb) {r o : List (List Nat)} {f d s : Nat} (R : Rw r o f d s) (hr : ExL prog w h₁ (n + 8) (fScope (stm 12)) (lw (tL r) (tL o) (.int (s : Int)) .unset .unset .unset .unset .unset .unset .unset (tL (grownF r o f d s)) .unset .unset .unset .unset .unset .unset .unset .unset (.rng (r.length - s + 1)) (tL (leftF r s)) (tL (leftF o s)) .unset .unset (tL (textsF r o s)) (tL (dotsF o)) (tL (dotsF r)) .unset .unset .unset .unset) rest oc) : ExL prog w h₁ (n + 8) (fScope (stm 12)) (lw (tL r) (tL o) (.int (s : Int)) .unset .unset .unset .unset .unset .unset .unset (tL (grownF r o f d s)) .unset .unset .unset .unset .unset .unset .unset .unset (.rng (r.length - s + 1)) (tL (leftF r s)) (tL (leftF o s)) .unset .unset (tL (textsF r o s)) (tL (dotsF o)) (tL (dotsF r)) .unset .unset .unset .unset) ((fBody (stm 12)).getD 17 noD :: rest) oc := by
  conv => arg 7; arg 1; whnf
  have hN := R.h6
  have h4 := R.h4
  have hs := R.hs
  have hlo := R.U.len
  obtain ⟨tm, hmark⟩ := W.mark
  obtain ⟨a5, hf5⟩ := W.f5
  obtain ⟨a11, hf11⟩ := W.f11
  have tl : (textsF r o s).length ≤ 42 := by
    rw [texts_len]; exact Nat.mul_le_mul (show r.length + 1 ≤ 7 by omega) (show r.length - s + 1 ≤ 6 by omega)
  have gl : (grownF r o f d s).length ≤ 6 := by unfold grownF; split <;> split <;> simp
  have sl : ((srt (dd (textsF r o s))).filter fun t => fitsF (patsOf o) t).length ≤ 6 := by
    rw [grown_sorted R.U R.hr R.ho R.hs R.hsd, (srt_perm _).length_eq]; exact gl
  refine ExL.cons (σ' := (lw (tL r) (tL o) (.int (s : Int)) .unset .unset .unset .unset .unset .unset .unset (tL (grownF r o f d s)) .unset .unset .unset .unset .unset .unset .unset .unset (.rng (r.length - s + 1)) (tL (leftF r s)) (tL (leftF o s)) .unset .unset (tL (textsF r o s)) (tL (dotsF o)) (tL (dotsF r)) .unset .unset .unset .unset)) (ExS.if_false ?t ExL.nil) hr
  case t =>
    refine EvB.cast (EvB.cmp' (by with_unfolding_all rfl) (d₁ := tL ((srt (dd (textsF r o s))).filter fun t => fitsF (patsOf o) t)) ?comp (EvE.call_b W.B W.sorted (by decide +kernel) (by decide +kernel) (fun _ => rfl) (fun _ => rfl) (EvL.cons' (nm_grown rfl) EvL.nil (fun _ => rfl)) (CallE.sorted_T (by omega))) CmpE.ne_T) ?e
    case e => rw [grown_sorted R.U R.hr R.ho R.hs R.hsd]; simp
    case comp =>
      refine EvE.compT (ds := (srt (dd (textsF r o s))).map tx) (σc := [(Str.ofString "text", .unset), (Str.ofString "grows", tL (dotsF o))]) (d := tL (srt (dd (textsF r o s)))) (out := ((srt (dd (textsF r o s))).filter fun t => fitsF (patsOf o) t).map tx) (fun _ _ => rfl) (EvE.sorted_set W.B W.sorted W.set (by decide +kernel) (by decide +kernel) (fun _ => rfl) (by omega) (nm_texts rfl)) IterE.T ?caps (LoopE.filt (l := srt (dd (textsF r o s))) (c := tx) (v := tx) (σm := fun t => [(Str.ofString "text", tx t), (Str.ofString "grows", tL (dotsF o))]) tx_inj (NoM.of rfl) ?item) (by rw [List.length_map]; omega) rfl
      case caps =>
        refine caps_of (σt := [(Str.ofString "text", .unset)]) (σk := [(Str.ofString "grows", tL (dotsF o))]) (fr := [Str.ofString "grows"]) (by decide +kernel) ?_ (by simp) ?_ (by show List.Nodup [Str.ofString "text", Str.ofString "grows"]; decide +kernel) (by decide +kernel)
        · exact List.forall_mem_cons.mpr ⟨⟨by decide +kernel, _, lk_grows, rfl⟩, List.forall_mem_nil _⟩
        · exact List.forall_mem_cons.mpr ⟨⟨lk_grows, rfl, by dsimp only; decide +kernel⟩, List.forall_mem_nil _⟩
      case item =>
        intro t ht
        have hts := texts_small R.hr R.ho hN (by omega) (srt_dd_mem.mp ht)
        refine ⟨AsgE.name Set1.here (by decide +kernel), .drop (.same .nil), NoM.of rfl, ?_, fun _ => EvE.nm .here rfl (by decide +kernel)⟩
        exact EvB.val (EvE.call_def W.B hf11 (by decide +kernel) (by decide +kernel) (by decide +kernel) (fun _ => rfl) (EvL.cons' (EvE.cast (EvE.nm (.there .here) rfl (by decide +kernel)) (by rw [dots_pats])) (EvL.cons' (EvE.nm .here rfl (by decide +kernel)) EvL.nil (fun _ => rfl)) (fun _ => rfl)) (fits_calls (n := n + 6) W.B W.len hmark hf5 hf11 (patsOf o) t (pats_ok R.ho (by omega)) hts)) TruE.bool

set_option maxHeartbeats 4000000 in
theorem law_18 (W : Lw h₁ mg mb) {r o : List (List Nat)} {f d s : Nat} (R : Rw r o f d s) (hr : ExL prog w h₁ (n + 8) (fScope (stm 12)) (lw (tL r) (tL o) (.int (s : Int)) .unset .unset .unset .unset .unset .unset .unset (tL (grownF r o f d s)) .unset .unset .unset .unset .unset .unset .unset .unset (.rng (r.length - s + 1)) (tL (leftF r s)) (tL (leftF o s)) .unset .unset (tL (textsF r o s)) (tL (dotsF o)) (tL (dotsF r)) .unset .unset .unset .unset) rest oc) : ExL prog w h₁ (n + 8) (fScope (stm 12)) (lw (tL r) (tL o) (.int (s : Int)) .unset .unset .unset .unset .unset .unset .unset (tL (grownF r o f d s)) .unset .unset .unset .unset .unset .unset .unset .unset (.rng (r.length - s + 1)) (tL (leftF r s)) (tL (leftF o s)) .unset .unset (tL (textsF r o s)) (tL (dotsF o)) (tL (dotsF r)) .unset .unset .unset .unset) ((fBody (stm 12)).getD 18 noD :: rest) oc := by
  conv => arg 7; arg 1; whnf
  have hN := R.h6
  have smr : Sm r 6 := R.hr.sm hN
  obtain ⟨tm, hmark⟩ := W.mark
  obtain ⟨a5, hf5⟩ := W.f5
  refine ExL.cons (σ' := (lw (tL r) (tL o) (.int (s : Int)) .unset .unset .unset .unset .unset .unset .unset (tL (grownF r o f d s)) .unset .unset .unset .unset .unset .unset .unset .unset (.rng (r.length - s + 1)) (tL (leftF r s)) (tL (leftF o s)) .unset .unset (tL (textsF r o s)) (tL (dotsF o)) (tL (dotsF r)) .unset .unset .unset .unset)) (ExS.if_false ?t ExL.nil) hr
  case t =>
    refine EvB.cast (EvB.cmp' (by with_unfolding_all rfl) (d₁ := tL []) ?comp EvE.disp0 CmpE.ne_T) (by simp)
    case comp =>
      refine EvE.compT (ds := (dotsF r).map tx) (σc := [(Str.ofString "pattern", .unset), (Str.ofString "row", tL r)]) (d := tL (dotsF r)) (out := ((dotsF r).filter fun _ => false).map tx) (fun _ _ => rfl) (nm_keeps rfl) IterE.T ?caps (LoopE.filt (l := dotsF r) (c := tx) (v := tx) (p := fun _ => false) (σm := fun t => [(Str.ofString "pattern", tx t), (Str.ofString "row", tL r)]) tx_inj (NoM.of rfl) ?item) (by rw [filter_no]; simp) (by rw [filter_no])
      case caps =>
        refine caps_of (σt := [(Str.ofString "pattern", .unset)]) (σk := [(Str.ofString "row", tL r)]) (fr := [Str.ofString "row"]) (by decide +kernel) ?_ (by simp) ?_ (by show List.Nodup [Str.ofString "pattern", Str.ofString "row"]; decide +kernel) (by decide +kernel)
        · exact List.forall_mem_cons.mpr ⟨⟨by decide +kernel, _, lk_row, rfl⟩, List.forall_mem_nil _⟩
        · exact List.forall_mem_cons.mpr ⟨⟨lk_row, rfl, by dsimp only; decide +kernel⟩, List.forall_mem_nil _⟩
      case item =>
        intro t ht
        rw [dots_pats] at ht
        obtain ⟨p, hp, rfl⟩ := List.mem_map.mp ht
        have ok := pats_ok R.hr (by omega) p hp
        refine ⟨AsgE.name Set1.here (by decide +kernel), .drop (.same .nil), NoM.of rfl, ?_, fun h => by cases h⟩
        refine EvB.cast (EvB.not (EvB.val (EvE.call_def W.B hf5 (by decide +kernel) (by decide +kernel) (by decide +kernel) (fun _ => rfl) (EvL.cons' (EvE.nm .here rfl (by decide +kernel)) (EvL.cons' (EvT.join (ls := r) (m := 6) ⟨EvE.nm (.there .here) rfl (by decide +kernel), smr⟩ (by decide) (fun _ => rfl) (fun _ => rfl)) EvL.nil (fun _ => rfl)) (fun _ => rfl)) (ell_calls (n := n + 7) W.B W.len hmark hf5 p r.flatten ok.two ok.nodot ok.len ok.many ok.each (by have := smr.flat; omega))) TruE.bool)) ?_
        rw [fits_self R.hr p hp]; rfl

set_option maxHeartbeats 4000000 in
theorem law_19 (W : Lw h₁ mg mb) {r o : List (List Nat)} {f d s : Nat} (R : Rw r o f d s) : ExL prog w h₁ (n + 8) (fScope (stm 12)) (lw (tL r) (tL o) (.int (s : Int)) .unset .unset .unset .unset .unset .unset .unset (tL (grownF r o f d s)) .unset .unset .unset .unset .unset .unset .unset .unset (.rng (r.length - s + 1)) (tL (leftF r s)) (tL (leftF o s)) .unset .unset (tL (textsF r o s)) (tL (dotsF o)) (tL (dotsF r)) .unset .unset .unset .unset) ((fBody (stm 12)).getD 19 noD :: rest) (.ret (.bool true)) := by
  conv => arg 7; arg 1; whnf
  have hN := R.h6
  have h4 := R.h4
  have hs := R.hs
  have hs3 := R.hs3
  obtain ⟨tm, hmark⟩ := W.mark
  obtain ⟨a5, hf5⟩ := W.f5
  obtain ⟨a11, hf11⟩ := W.f11
  refine ExL.ret (ExS.return_ ?v)
  case v =>
    refine EvE.cast (EvE.cmp' (by with_unfolding_all rfl) (d₁ := tL []) ?comp EvE.disp0 CmpE.eq_T) (by simp)
    case comp =>
      refine EvE.compT (ds := (leftF r s).map tx) (σc := [(Str.ofString "text", .unset), (Str.ofString "keeps", tL (dotsF r))]) (d := tL (leftF r s)) (out := ((leftF r s).filter fun _ => false).map tx) (fun _ _ => rfl) (nm_left rfl) IterE.T ?caps (LoopE.filt (l := leftF r s) (c := tx) (v := tx) (p := fun _ => false) (σm := fun t => [(Str.ofString "text", tx t), (Str.ofString "keeps", tL (dotsF r))]) tx_inj (NoM.of rfl) ?item) (by rw [filter_no]; simp) (by rw [filter_no])
      case caps =>
        refine caps_of (σt := [(Str.ofString "text", .unset)]) (σk := [(Str.ofString "keeps", tL (dotsF r))]) (fr := [Str.ofString "keeps"]) (by decide +kernel) ?_ (by simp) ?_ (by show List.Nodup [Str.ofString "text", Str.ofString "keeps"]; decide +kernel) (by decide +kernel)
        · exact List.forall_mem_cons.mpr ⟨⟨by decide +kernel, _, lk_keeps, rfl⟩, List.forall_mem_nil _⟩
        · exact List.forall_mem_cons.mpr ⟨⟨lk_keeps, rfl, by dsimp only; decide +kernel⟩, List.forall_mem_nil _⟩
      case item =>
        intro t ht
        obtain ⟨T, sgT, lenT, rfl⟩ := left_of R.hr (by omega) ht
        have smT : Sm T 6 := sgT.sm (by omega)
        refine ⟨AsgE.name Set1.here (by decide +kernel), .drop (.same .nil), NoM.of rfl, ?_, fun h => by cases h⟩
        refine EvB.cast (EvB.val (EvE.call_def W.B hf11 (by decide +kernel) (by decide +kernel) (by decide +kernel) (fun _ => rfl) (EvL.cons' (EvE.cast (EvE.nm (.there .here) rfl (by decide +kernel)) (by rw [dots_pats])) (EvL.cons' (EvE.nm .here rfl (by decide +kernel)) EvL.nil (fun _ => rfl)) (fun _ => rfl)) (fits_calls (n := n + 6) W.B W.len hmark hf5 hf11 (patsOf r) T.flatten (pats_ok R.hr (by omega)) (by have := smT.flat; omega))) TruE.bool) ?_
        rw [fits_short sgT R.hr (by omega)]
end
end Mine
end

-- part MLawG
section

open PySem PySem.W PyProof.Rows
set_option linter.unusedVariables false
set_option maxRecDepth 100000
namespace Mine

section
variable {prog : Program} {w : World} {h₁ : Heap} {mg mb : Str → Option Value} {n : Nat} {rest : List Stmt} {oc : Oc}

set_option maxHeartbeats 4000000 in
theorem law_8 (W : Lw h₁ mg mb) {r o : List (List Nat)} {f d s : Nat} (R : Rw r o f d s) (hr : ExL prog w h₁ (n + 8) (fScope (stm 12)) (lw (tL r) (tL o) (.int (s : Int)) (tL (r.take f)) (tL (r.drop (f + d))) (.int (f : Int)) (.int (d : Int)) (tL (midOf r f d)) (tL (midOf o f d)) (tL (lostF r o f d s)) (tL (grownF r o f d s)) .unset .unset .unset .unset .unset .unset .unset .unset .unset .unset .unset .unset .unset .unset .unset .unset .unset .unset .unset .unset) rest oc) : ExL prog w h₁ (n + 8) (fScope (stm 12)) (lw (tL r) (tL o) (.int (s : Int)) (tL (r.take f)) (tL (r.drop (f + d))) (.int (f : Int)) (.int (d : Int)) (tL (midOf r f d)) (tL (midOf o f d)) (.mlist []) (.mlist []) .unset .unset .unset .unset .unset .unset .unset .unset .unset .unset .unset .unset .unset .unset .unset .unset .unset .unset .unset .unset) ((fBody (stm 12)).getD 8 noD :: rest) oc := by
  have hN := R.h6
  have hlo := R.U.len
  obtain ⟨a1, hf1⟩ := W.f1
  obtain ⟨a2, hf2⟩ := W.f2
  obtain ⟨a9, hf9⟩ := W.f9
  have l1 : (if Cond r o f d s then [(del r f s).flatten] else []).length ≤ 2 := by split <;> simp
  have g1 : (if Cond r o f d s then [(ins o f ((r.drop f).take s)).flatten] else []).length ≤ 2 := by split <;> simp
  have T1 := law_turn (prog := prog) (w := w) (n := n) W.B W.len W.enum hf1 hf2 hf9 R.U R.hr R.ho hN R.hs R.hsd [] [] (by simp) (by simp) (tL r) (tL o) (tL (midOf r f d)) (tL (midOf o f d)) .unset .unset .unset .unset .unset .unset .unset .unset .unset .unset .unset .unset .unset .unset
  have T2 := law_turn (prog := prog) (w := w) (n := n) W.B W.len W.enum hf1 hf2 hf9 R.U.symm R.ho R.hr (by omega) R.hs R.hsd _ _ l1 g1 (tL r) (tL o) (tL (midOf r f d)) (tL (midOf o f d)) .unset .unset .unset .unset .unset .unset .unset .unset .unset .unset .unset .unset .unset .unset
  rw [R.U.heads.1, R.U.heads.2] at T2
  rw [List.nil_append, List.nil_append] at T1
  have fr : ExL prog w h₁ (n + 8) (fScope (stm 12)) (lw (tL r) (tL o) (.int (s : Int)) (tL (r.take f)) (tL (r.drop (f + d))) (.int (f : Int)) (.int (d : Int)) (tL (midOf r f d)) (tL (midOf o f d)) (.mlist ((lostF r o f d s).map tx)) (.mlist ((grownF r o f d s).map tx)) .unset .unset .unset .unset .unset .unset .unset .unset .unset .unset .unset .unset .unset .unset .unset .unset .unset .unset .unset .unset) rest oc := by
    refine ExL.freeze (xs := (lostF r o f d s).map tx) lk_lost.mem (σ' := (lw (tL r) (tL o) (.int (s : Int)) (tL (r.take f)) (tL (r.drop (f + d))) (.int (f : Int)) (.int (d : Int)) (tL (midOf r f d)) (tL (midOf o f d)) (.list ((lostF r o f d s).map tx)) (.mlist ((grownF r o f d s).map tx)) .unset .unset .unset .unset .unset .unset .unset .unset .unset .unset .unset .unset .unset .unset .unset .unset .unset .unset .unset .unset)) st_lost (ExL.freeze (xs := (grownF r o f d s).map tx) lk_grown.mem (σ' := (lw (tL r) (tL o) (.int (s : Int)) (tL (r.take f)) (tL (r.drop (f + d))) (.int (f : Int)) (.int (d : Int)) (tL (midOf r f d)) (tL (midOf o f d)) (.list ((lostF r o f d s).map tx)) (.list ((grownF r o f d s).map tx)) .unset .unset .unset .unset .unset .unset .unset .unset .unset .unset .unset .unset .unset .unset .unset .unset .unset .unset .unset .unset)) st_grown ?_)
    rw [tL_eq, tL_eq]
    exact hr
  revert T1 T2
  generalize hb : (fBody (stm 12)).getD 8 noD = st
  have hst : st = st := rfl
  conv at hb => lhs; whnf
  subst hb
  intro T1 T2
  refine ExL.cons (ExS.for_ (d := .tuple [.tuple [tL (midOf r f d), tL (midOf o f d), tL r, tL o], .tuple [tL (midOf o f d), tL (midOf r f d), tL o, tL r]]) (ds := [.tuple [tL (midOf r f d), tL (midOf o f d), tL r, tL o], .tuple [tL (midOf o f d), tL (midOf r f d), tL o, tL r]]) ?it IterE.tuple (fun i => match i with | 0 => (lw (tL r) (tL o) (.int (s : Int)) (tL (r.take f)) (tL (r.drop (f + d))) (.int (f : Int)) (.int (d : Int)) (tL (midOf r f d)) (tL (midOf o f d)) (.mlist []) (.mlist []) .unset .unset .unset .unset .unset .unset .unset .unset .unset .unset .unset .unset .unset .unset .unset .unset .unset .unset .unset .unset) | 1 => (lw (tL r) (tL o) (.int (s : Int)) (tL (r.take f)) (tL (r.drop (f + d))) (.int (f : Int)) (.int (d : Int)) (tL (midOf r f d)) (tL (midOf o f d)) (.mlist ((if Cond r o f d s then [(del r f s).flatten] else []).map tx)) (.mlist ((if Cond r o f d s then [(ins o f ((r.drop f).take s)).flatten] else []).map tx)) .unset .unset .unset .unset .unset .unset .unset .unset .unset .unset .unset .unset .unset .unset .unset .unset .unset .unset .unset .unset) | _ => (lw (tL r) (tL o) (.int (s : Int)) (tL (r.take f)) (tL (r.drop (f + d))) (.int (f : Int)) (.int (d : Int)) (tL (midOf r f d)) (tL (midOf o f d)) (.mlist ((lostF r o f d s).map tx)) (.mlist ((grownF r o f d s).map tx)) .unset .unset .unset .unset .unset .unset .unset .unset .unset .unset .unset .unset .unset .unset .unset .unset .unset .unset .unset .unset)) rfl 2 (by simp) ?step (.inl ⟨rfl, rfl⟩) (fun _ _ => rfl)) fr
  case it => exact EvE.tuple' (EvL.cons' (EvE.tuple' (EvL.cons' (nm_mine rfl) (EvL.cons' (nm_theirs rfl) (EvL.cons' (nm_row rfl) (EvL.cons' (nm_other rfl) EvL.nil (fun _ => rfl)) (fun _ => rfl)) (fun _ => rfl)) (fun _ => rfl)) (by simp)) (EvL.cons' (EvE.tuple' (EvL.cons' (nm_theirs rfl) (EvL.cons' (nm_mine rfl) (EvL.cons' (nm_other rfl) (EvL.cons' (nm_row rfl) EvL.nil (fun _ => rfl)) (fun _ => rfl)) (fun _ => rfl)) (fun _ => rfl)) (by simp)) EvL.nil (fun _ => rfl)) (fun _ => rfl)) (by simp)
  case step =>
    intro i d' hi hd
    rcases (show i = 0 ∨ i = 1 by omega) with rfl | rfl
    · cases hd
      exact ⟨(lw (tL r) (tL o) (.int (s : Int)) (tL (r.take f)) (tL (r.drop (f + d))) (.int (f : Int)) (.int (d : Int)) (tL (midOf r f d)) (tL (midOf o f d)) (.mlist []) (.mlist []) (tL (midOf r f d)) (tL (midOf o f d)) (tL r) (tL o) .unset .unset .unset .unset .unset .unset .unset .unset .unset .unset .unset .unset .unset .unset .unset .unset), AsgE.four st_one st_two st_owner st_guest (by decide +kernel) (by decide +kernel) (by decide +kernel) (by decide +kernel), T1⟩
    · cases hd
      exact ⟨(lw (tL r) (tL o) (.int (s : Int)) (tL (r.take f)) (tL (r.drop (f + d))) (.int (f : Int)) (.int (d : Int)) (tL (midOf r f d)) (tL (midOf o f d)) (.mlist ((if Cond r o f d s then [(del r f s).flatten] else []).map tx)) (.mlist ((if Cond r o f d s then [(ins o f ((r.drop f).take s)).flatten] else []).map tx)) (tL (midOf o f d)) (tL (midOf r f d)) (tL o) (tL r) .unset .unset .unset .unset .unset .unset .unset .unset .unset .unset .unset .unset .unset .unset .unset .unset), AsgE.four st_one st_two st_owner st_guest (by decide +kernel) (by decide +kernel) (by decide +kernel) (by decide +kernel), T2⟩

theorem law_body : fBody (stm 12) = [(fBody (stm 12)).getD 0 noD, (fBody (stm 12)).getD 1 noD, (fBody (stm 12)).getD 2 noD, (fBody (stm 12)).getD 3 noD, (fBody (stm 12)).getD 4 noD, (fBody (stm 12)).getD 5 noD, (fBody (stm 12)).getD 6 noD, (fBody (stm 12)).getD 7 noD, (fBody (stm 12)).getD 8 noD, (fBody (stm 12)).getD 9 noD, (fBody (stm 12)).getD 10 noD, (fBody (stm 12)).getD 11 noD, (fBody (stm 12)).getD 12 noD, (fBody (stm 12)).getD 13 noD, (fBody (stm 12)).getD 14 noD, (fBody (stm 12)).getD 15 noD, (fBody (stm 12)).getD 16 noD, (fBody (stm 12)).getD 17 noD, (fBody (stm 12)).getD 18 noD, (fBody (stm 12)).getD 19 noD] := rfl

theorem ns_len (scr : List Int) : 4 ≤ (nsOf scr).length ∧ (nsOf scr).length ≤ 6 := by
  unfold nsOf
  rw [List.length_append, List.length_take, List.length_drop]
  simp only [List.length_cons, List.length_nil]
  omega
theorem size_spec (ns : List Int) (d : Nat) (hd : 1 ≤ d) : 1 ≤ sizeN ns d ∧ sizeN ns d ≤ d ∧ sizeN ns d ≤ 3 := by
  have := fmod_range ((ns.getD 3 0).fdiv 4) 3 (by decide)
  unfold sizeN
  split <;> omega

set_option maxHeartbeats 4000000 in
theorem law_tail5 (W : Lw h₁ mg mb) {r o : List (List Nat)} {f d s : Nat} (R : Rw r o f d s) : ExL prog w h₁ (n + 8) (fScope (stm 12)) (lw (tL r) (tL o) (.int (s : Int)) .unset .unset (.int (f : Int)) (.int (d : Int)) .unset .unset .unset .unset .unset .unset .unset .unset .unset .unset .unset .unset .unset .unset .unset .unset .unset .unset .unset .unset .unset .unset .unset .unset) [(fBody (stm 12)).getD 5 noD, (fBody (stm 12)).getD 6 noD, (fBody (stm 12)).getD 7 noD, (fBody (stm 12)).getD 8 noD, (fBody (stm 12)).getD 9 noD, (fBody (stm 12)).getD 10 noD, (fBody (stm 12)).getD 11 noD, (fBody (stm 12)).getD 12 noD, (fBody (stm 12)).getD 13 noD, (fBody (stm 12)).getD 14 noD, (fBody (stm 12)).getD 15 noD, (fBody (stm 12)).getD 16 noD, (fBody (stm 12)).getD 17 noD, (fBody (stm 12)).getD 18 noD, (fBody (stm 12)).getD 19 noD] (.ret (.bool true)) := by
  refine law_5 R (law_6 R (law_7 (law_8 W R (law_9 R (ExL.weak (σ' := (lw (tL r) (tL o) (.int (s : Int)) .unset .unset .unset .unset .unset .unset (tL (lostF r o f d s)) (tL (grownF r o f d s)) .unset .unset .unset .unset .unset .unset (tL (lostF r o f d 1)) .unset .unset .unset .unset .unset .unset .unset .unset .unset .unset .unset .unset .unset)) ?w3 (law_10 W R (law_11 W R (law_12 W R (law_13 W R (law_14 W R (law_15 W R (law_16 W R (law_17 W R (law_18 W R (law_19 W R)))))))))))))))
  case w3 => unfold lw; repeat' walk_at "m weak"
set_option maxHeartbeats 4000000 in
theorem law_tail2 (W : Lw h₁ mg mb) {r o : List (List Nat)} {ns : List Int} {f d : Nat} (R : Rw r o f d (sizeN ns d)) (h4 : 4 ≤ ns.length) (u1 : unlikeL r o ≠ []) (u2 : (unlikeL r o)[0]? = some f) (u3 : (unlikeL r o)[(unlikeL r o).length - 1]? = some (f + d - 1)) : ExL prog w h₁ (n + 8) (fScope (stm 12)) (lw (tL r) (tL o) .unset .unset .unset .unset .unset .unset .unset .unset .unset .unset .unset .unset .unset .unset .unset .unset .unset .unset .unset .unset .unset .unset .unset .unset .unset .unset .unset (iL ns) .unset) [(fBody (stm 12)).getD 2 noD, (fBody (stm 12)).getD 3 noD, (fBody (stm 12)).getD 4 noD, (fBody (stm 12)).getD 5 noD, (fBody (stm 12)).getD 6 noD, (fBody (stm 12)).getD 7 noD, (fBody (stm 12)).getD 8 noD, (fBody (stm 12)).getD 9 noD, (fBody (stm 12)).getD 10 noD, (fBody (stm 12)).getD 11 noD, (fBody (stm 12)).getD 12 noD, (fBody (stm 12)).getD 13 noD, (fBody (stm 12)).getD 14 noD, (fBody (stm 12)).getD 15 noD, (fBody (stm 12)).getD 16 noD, (fBody (stm 12)).getD 17 noD, (fBody (stm 12)).getD 18 noD, (fBody (stm 12)).getD 19 noD] (.ret (.bool true)) := by
  refine law_2 W ns R.U.len R.h6 (law_3 ns u2 u1 u3 R.U.pos (ExL.weak (σ' := (lw (tL r) (tL o) .unset .unset .unset (.int (f : Int)) (.int (d : Int)) .unset .unset .unset .unset .unset .unset .unset .unset .unset .unset .unset .unset .unset .unset .unset .unset .unset .unset .unset .unset .unset .unset (iL ns) .unset)) ?w1 (law_4 W ns h4 (ExL.weak (σ' := (lw (tL r) (tL o) (.int (sizeN ns d : Int)) .unset .unset (.int (f : Int)) (.int (d : Int)) .unset .unset .unset .unset .unset .unset .unset .unset .unset .unset .unset .unset .unset .unset .unset .unset .unset .unset .unset .unset .unset .unset .unset .unset)) ?w2 (law_tail5 W R)))))
  case w1 => unfold lw; repeat' walk_at "m weak"
  case w2 => unfold lw; repeat' walk_at "m weak"
theorem law_weak0 {scr : List Int} : Weak ((lw .unset .unset .unset .unset .unset .unset .unset .unset .unset .unset .unset .unset .unset .unset .unset .unset .unset .unset .unset .unset .unset .unset .unset .unset .unset .unset .unset .unset .unset (iL (nsOf scr)) (.xlist (scr.map D.int)))) (lw .unset .unset .unset .unset .unset .unset .unset .unset .unset .unset .unset .unset .unset .unset .unset .unset .unset .unset .unset .unset .unset .unset .unset .unset .unset .unset .unset .unset .unset (iL (nsOf scr)) .unset) := by
  unfold lw; repeat' walk_at "m weak"
set_option maxHeartbeats 4000000 in
theorem law_runs (W : Lw h₁ mg mb) (scr : List Int) (hz : scr.length ≤ 63) : ExL prog w h₁ (n + 8) (fScope (stm 12)) ((lw .unset .unset .unset .unset .unset .unset .unset .unset .unset .unset .unset .unset .unset .unset .unset .unset .unset .unset .unset .unset .unset .unset .unset .unset .unset .unset .unset .unset .unset .unset (.xlist (scr.map D.int)))) (fBody (stm 12)) (.ret (.bool true)) := by
  obtain ⟨h4, h6⟩ := ns_len scr
  obtain ⟨sgo, lno, hne⟩ := other_spec (nsOf scr) h4
  have lnr := row_len (nsOf scr)
  have sgr := row_sg (nsOf scr)
  obtain ⟨f, d, u1, u2, u3, U⟩ := unlike_spec (r := rowOf (nsOf scr)) (o := otherOf (nsOf scr)) (by omega) hne
  obtain ⟨z1, z2, z3⟩ := size_spec (nsOf scr) d U.pos
  have R : Rw (rowOf (nsOf scr)) (otherOf (nsOf scr)) f d (sizeN (nsOf scr) d) := ⟨U, sgr, sgo, by omega, by omega, z1, z2, z3⟩
  rw [law_body]
  exact law_0 W scr hz (ExL.weak law_weak0 (law_1 W (nsOf scr) h4 h6 (law_tail2 W R h4 u1 u2 u3)))

/-- a call of law -/
theorem law_calls (W : Lw h₁ mg mb) {a : Addr} (hf : FnAt h₁ mg 12 a) (scr : List Int) (hz : scr.length ≤ 63) : CallE prog w h₁ (n + 9) (.ref a) [.xlist (scr.map D.int)] (.bool true) := by
  obtain ⟨o, pm, cd, doc, ho, hd, hcd⟩ := hf.obj
  refine CallE.fn W.B (xs := [Str.ofString "script"]) (σ₀ := (lw .unset .unset .unset .unset .unset .unset .unset .unset .unset .unset .unset .unset .unset .unset .unset .unset .unset .unset .unset .unset .unset .unset .unset .unset .unset .unset .unset .unset .unset .unset (.xlist (scr.map D.int)))) ho hd hcd (fun vs hv => ?_) rfl (by decide +kernel) (by decide +kernel) ?sub ?nodup (NoM.of rfl) (law_runs W scr hz)
  · obtain ⟨v, rfl⟩ := list_one vs hv
    rfl
  case sub => simp [lw]
  case nodup =>
    show List.Nodup [Str.ofString "row", Str.ofString "other", Str.ofString "size", Str.ofString "head", Str.ofString "tail", Str.ofString "first", Str.ofString "wide", Str.ofString "mine", Str.ofString "theirs", Str.ofString "lost", Str.ofString "grown", Str.ofString "one", Str.ofString "two", Str.ofString "owner", Str.ofString "guest", Str.ofString "signs", Str.ofString "both", Str.ofString "single", Str.ofString "told", Str.ofString "places", Str.ofString "left", Str.ofString "right", Str.ofString "text", Str.ofString "dots", Str.ofString "texts", Str.ofString "grows", Str.ofString "keeps", Str.ofString "k", Str.ofString "unlike", Str.ofString "numbers", Str.ofString "script"]
    decide +kernel
end
end Mine
end

-- part MJoin
section

open PySem PySem.W PyProof.Rows
set_option linter.unusedVariables false
set_option maxRecDepth 100000
namespace Mine

/-- what the walk asks of the program's top -/
structure TopOk (p : Program) (loose : List Str) : Prop where
  fns : ∀ q ∈ [(1, 0), (2, 1), (5, 2), (7, 3), (8, 4), (9, 5), (10, 6), (11, 7), (12, 8)], ((recsOf p)[q.2]?).map (fun d => (d.name, d.params, d.body, d.scope)) = some (fName (stm q.1), fParams (stm q.1), fBody (stm q.1), fScope (stm q.1))
  mark : valOf p (Str.ofString "ELLIPSIS_MARKER") = some (.str (S dot3))
  free : ([Str.ofString "len", Str.ofString "enumerate", Str.ofString "range", Str.ofString "min", Str.ofString "sorted", Str.ofString "set"].all fun x => !(startupNames.contains x) && !(loose.contains x) && !(((recsOf p).map (·.name)).contains x) && !(((litsOf p).map (·.1)).contains x) && !(((clssOf p loose).map (·.name)).contains x)) = true

theorem fn_at {p : Program} {loose : List Str} {mean : ExcName → Option Value} {mg mb : Str → Option Value} {h : Heap} (T : Top p loose mean mg mb h) {i j : Nat}
    (e : ((recsOf p)[j]?).map (fun d => (d.name, d.params, d.body, d.scope)) = some (fName (stm i), fParams (stm i), fBody (stm i), fScope (stm i))) : ∃ a, FnAt h mg i a := by
  obtain ⟨d, hd, e⟩ := Option.map_eq_some_iff.mp e
  obtain ⟨e1, e⟩ := Prod.mk.inj e
  obtain ⟨e2, e⟩ := Prod.mk.inj e
  obtain ⟨e3, e4⟩ := Prod.mk.inj e
  obtain ⟨a, o, pm, code, doc, h1, h2, h3, h4⟩ := T.fn d (List.mem_of_getElem? hd)
  rw [e1, e2, e3, e4] at h3
  rw [e1] at h1 h4
  exact ⟨a, h1, o, pm, code, doc, h2, h3, h4⟩

theorem glob_of {p : Program} {loose : List Str} {mean : ExcName → Option Value} {mg mb : Str → Option Value} {h : Heap} (T : Top p loose mean mg mb h) (O : TopOk p loose) {x : Str} {v : Value}
    (hx : x ∈ [Str.ofString "len", Str.ofString "enumerate", Str.ofString "range", Str.ofString "min", Str.ofString "sorted", Str.ofString "set"]) (hn : x ≠ "__name__") (hv : bootBuiltins x = some v) : Mine.Glob mg mb x v := by
  have q := List.all_eq_true.mp O.free x hx
  simp only [Bool.and_eq_true, Bool.not_eq_true', List.contains_eq_mem, decide_eq_false_iff_not] at q
  exact .inr ⟨T.free x q.1.1.1.1 q.1.1.1.2 q.1.1.2 q.1.2 q.2, (T.builtins x hn).trans hv⟩

theorem lw_of {p : Program} {loose : List Str} {mean : ExcName → Option Value} {mg mb : Str → Option Value} {h : Heap} (T : Top p loose mean mg mb h) (O : TopOk p loose) : Lw h mg mb ∧ ∃ a, FnAt h mg 12 a := by
  have F : ∀ i j, (i, j) ∈ [(1, 0), (2, 1), (5, 2), (7, 3), (8, 4), (9, 5), (10, 6), (11, 7), (12, 8)] → ∃ a, FnAt h mg i a := fun i j hm => fn_at T (O.fns (i, j) hm)
  refine ⟨⟨⟨T.g, T.b, T.nolimit⟩, glob_of T O (.head _) (by decide +kernel) ?_, glob_of T O (.tail _ (.head _)) (by decide +kernel) ?_, glob_of T O (.tail _ (.tail _ (.head _))) (by decide +kernel) ?_, glob_of T O (.tail _ (.tail _ (.tail _ (.head _)))) (by decide +kernel) ?_, glob_of T O (.tail _ (.tail _ (.tail _ (.tail _ (.head _))))) (by decide +kernel) ?_, glob_of T O (.tail _ (.tail _ (.tail _ (.tail _ (.tail _ (.head _)))))) (by decide +kernel) ?_, ?_, F 1 0 (.head _), F 2 1 (.tail _ (.head _)), F 5 2 (.tail _ (.tail _ (.head _))), F 7 3 (.tail _ (.tail _ (.tail _ (.head _)))), F 8 4 (.tail _ (.tail _ (.tail _ (.tail _ (.head _))))), F 9 5 (.tail _ (.tail _ (.tail _ (.tail _ (.tail _ (.head _)))))), F 10 6 (.tail _ (.tail _ (.tail _ (.tail _ (.tail _ (.tail _ (.head _))))))), F 11 7 (.tail _ (.tail _ (.tail _ (.tail _ (.tail _ (.tail _ (.tail _ (.head _))))))))⟩, F 12 8 (.tail _ (.tail _ (.tail _ (.tail _ (.tail _ (.tail _ (.tail _ (.tail _ (.head _)))))))))⟩
  any_goals kernel_rfl
  obtain ⟨v, h1, h2⟩ := T.const _ _ O.mark
  cases h2 h with
  | str _ t => exact ⟨t, .inl h1⟩

theorem rdL_ints {g : Gh} : ∀ {vs : List Value} {ns : List Int}, IntsAre vs ns → RdL g vs (ns.map D.int)
  | _, _, .nil => .nil
  | _, _, .cons i t h => .cons (.int i t) (rdL_ints h)

theorem law_ends {prog : Program} {w : World} {p : Program} {loose : List Str} {mean : ExcName → Option Value} {mg mb : Str → Option Value} {s₁ : Shared} {fa la : Addr} {vs : List Value} {ns : List Int} {E : Value → Shared → Prop} (T : Top p loose mean mg mb s₁.heap) (O : TopOk p loose)
    (hf : mg (Str.ofString "law") = some (.ref fa)) (hl : s₁.heap.IsList la vs.toArray) (hI : IntsAre vs ns) (hz : ns.length ≤ 63) (hg : s₁.gens = #[]) :
    wpAny (model prog w) callerA (call (.ref fa) [.ref la]) (fun v s' => v = .bool true ∧ (∀ b o, s₁.heap.get? b = some o → s'.heap.get? b = some o) ∧ s'.os = s₁.os ∧ AllBare s'.gens) E s₁ := by
  obtain ⟨W, a, hfa⟩ := lw_of T O
  have ea : a = fa := by
    have h1 := hfa.glob
    rw [show fName (stm 12) = Str.ofString "law" from rfl, hf] at h1
    injection h1 with h1
    injection h1 with h1
    exact h1.symm
  subst ea
  obtain ⟨o, h1, h2, k, h3⟩ := hl
  refine wpAny_mono (law_calls (n := 0) W hfa ns hz callerA E s₁ s₁.heap.get? [.ref la] ⟨rfl, by decide, by decide⟩ ⟨fun _ _ e => e, fun _ _ e => e⟩ (.cons (.xlist h1 h2 h3 (rdL_ints hI)) .nil)) (fun v s' ⟨g', G, r⟩ => ?_) fun _ _ x => x
  cases r
  refine ⟨rfl, G.keep, G.os, fun y hy => ?_⟩
  obtain ⟨i, hi, rfl⟩ := Array.mem_iff_getElem.mp hy
  rcases G.bare i _ (Array.getElem?_eq_getElem hi) with h | h
  · rw [hg] at h; simp at h
  · rw [h]; rfl
end Mine
end

set_option maxRecDepth 100000 in
set_option maxHeartbeats 8000000 in
theorem PySem.Challenge.cw_ph0060_01_holds : PySem.Challenge.rw_ph0060_01.Holds := by
  w_on; o_law; o_head PySem.W.Hook.none; (case hw => w_witness2)
  intro w s₀ s₁ mg mb G Y fa o pm cd doc dV kV ho hd hcd hD hmg hg args vals as hpre hlay hrd hwl hlo
  refine Ground.open G ?_
  intro T B D TE TW
  try (refine guard_noD D (by decide +kernel) ?_; clear D)
  wrow_args hpre hlay hrd hwl hlo
  refine wpAny_mono (Mine.law_ends T ⟨?myfns, ?mymark, ?myfree⟩ hmg (by assumption) (by assumption) (by omega) hg) ?myend (fun _ _ x => x)
  case myfree => decide +kernel
  case mymark => kernel_rfl
  case myfns =>
    simp only [List.forall_mem_cons]
    refine ⟨?_, ?_, ?_, ?_, ?_, ?_, ?_, ?_, ?_, List.forall_mem_nil _⟩ <;> kernel_rfl
  case myend =>
    rintro v s' ⟨rfl, k, os, gb⟩
    exact ⟨.inl ⟨_, .bool true, [], rfl, fun _ => rfl, ReadsW.bool true, (by kernel_rfl), fun _ => ⟨List.nodup_nil, fun a h => by cases h⟩⟩, OldK.of_keep k, os, gb⟩
