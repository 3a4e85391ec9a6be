import PyProof.Rows.All
import Wide.All
import OpenK.AllK
import Wide.FinOn
import PySem.Challenge.RW_dj5011_01
set_option Elab.async false
section
open PySem PyProof.Rows
set_option maxRecDepth 10000
set_option linter.unusedVariables false
namespace Mine

inductive V where
  | none | bool (b : Bool) | int (i : Int) | pair (a b : Int) | item (ls : List Int) (v : Int)
  | fl (l : List V) | fd (ks : List Int) | rng (lo hi : Int)
  | list (a : Addr) (l : List V) | mat (a : Addr) (rs : List Addr) (rows : List (List Bool)) | dict (a : Addr) (ks : List Int)
  | gone

def foot : V → List Addr
  | .list a _ => [a]
  | .mat a rs _ => a :: rs
  | .dict a _ => [a]
  | _ => []

abbrev FZ := Addr → Option Obj
def FZ.Le (Z Z' : FZ) : Prop := ∀ a o, Z a = some o → Z' a = some o
def ZIn (Z : FZ) (h : Heap) : Prop := ∀ a o, Z a = some o → h.get? a = some o
theorem FZ.Le.refl (Z : FZ) : FZ.Le Z Z := fun _ _ e => e
theorem FZ.Le.trans {Z Z' Z'' : FZ} (x : FZ.Le Z Z') (y : FZ.Le Z' Z'') : FZ.Le Z Z'' := fun a o e => y a o (x a o e)
def IsSeq (Z : FZ) (T : String) (a : Addr) (vs : List Value) : Prop := ∃ o, Z a = some o ∧ o.cls = .type T ∧ ∃ n, o.data = .seq vs.toArray n
theorem IsSeq.mono {Z Z' : FZ} {T a vs} (x : IsSeq Z T a vs) (h : FZ.Le Z Z') : IsSeq Z' T a vs := let ⟨o, e, r⟩ := x; ⟨o, h _ _ e, r⟩
theorem IsSeq.list {Z : FZ} {a vs} {h : Heap} (x : IsSeq Z "list" a vs) (z : ZIn Z h) : h.IsList a vs.toArray := let ⟨o, e, c, n, d⟩ := x; ⟨o, z _ _ e, c, n, d⟩
theorem IsSeq.tuple {Z : FZ} {a vs} {h : Heap} (x : IsSeq Z "tuple" a vs) (z : ZIn Z h) : h.IsTuple a vs.toArray := let ⟨o, e, c, n, d⟩ := x; ⟨o, z _ _ e, c, n, d⟩

/-- a dict of ints, frozen: whatever heap holds Z -/
def IsFD (P : Program) (w : World) (Z : FZ) (a : Addr) (ks : List Int) : Prop :=
  ∃ (kvs : List (Int × Value)) (ep : Nat) (o : Obj), kvs.map (·.1) = ks ∧ Z a = some o ∧ ∀ h : Heap, h.get? a = some o → h.DictAt (intKind P w) a kvs ep

structure Cx where
  prog : Program
  w : World
  h₀ : Heap
  mg : Str → Option Value
  mb : Str → Option Value
  os : OsState
  drawn : Drawn

mutual
inductive IRep (c : Cx) (Z : FZ) : Value → V → Prop
  | none : IRep c Z .none .none
  | bool (b : Bool) : IRep c Z (.bool b) (.bool b)
  | int (i : Int) (t : Tok) : IRep c Z (.int i t) (.int i)
  | pair {T : Addr} {a b : Int} {t u : Tok} : IsSeq Z "tuple" T [.int a t, .int b u] → IRep c Z (.ref T) (.pair a b)
  | item {T l : Addr} {ls : List Int} {v : Int} {t : Tok} {vs : List Value} : IsSeq Z "tuple" T [.ref l, .int v t] → IsSeq Z "list" l vs → IntsAre vs ls → IRep c Z (.ref T) (.item ls v)
  | fl {a : Addr} {vs : List Value} {l : List V} : IsSeq Z "list" a vs → AllR c Z vs l → IRep c Z (.ref a) (.fl l)
  | fd {a : Addr} {ks : List Int} : IsFD c.prog c.w Z a ks → (a == sysModules) = false → IRep c Z (.ref a) (.fd ks)
  | rng {a : Addr} {lo hi : Int} {o : Obj} {t1 t2 t3 : Tok} : Z a = some o → o = { cls := .type "range", data := .fields #[.int lo t1, .int hi t2, .int 1 t3] } → IRep c Z (.ref a) (.rng lo hi)
inductive AllR (c : Cx) (Z : FZ) : List Value → List V → Prop
  | nil : AllR c Z [] []
  | cons {v x vs xs} : IRep c Z v x → AllR c Z vs xs → AllR c Z (v :: vs) (x :: xs)
end

mutual
theorem IRep.mono {c : Cx} {Z Z' : FZ} (h : FZ.Le Z Z') : ∀ {v x}, IRep c Z v x → IRep c Z' v x
  | _, _, .none => .none
  | _, _, .bool b => .bool b
  | _, _, .int i t => .int i t
  | _, _, .pair e => .pair (e.mono h)
  | _, _, .item e f g => .item (e.mono h) (f.mono h) g
  | _, _, .fl e f => .fl (e.mono h) (f.mono h)
  | _, _, .fd ⟨kvs, ep, o, e, f, g⟩ n => .fd ⟨kvs, ep, o, e, h _ _ f, g⟩ n
  | _, _, .rng e f => .rng (h _ _ e) f
theorem AllR.mono {c : Cx} {Z Z' : FZ} (h : FZ.Le Z Z') : ∀ {vs xs}, AllR c Z vs xs → AllR c Z' vs xs
  | _, _, .nil => .nil
  | _, _, .cons a b => .cons (a.mono h) (b.mono h)
end

theorem AllR.length {c : Cx} {Z : FZ} : ∀ {vs xs}, AllR c Z vs xs → vs.length = xs.length
  | _, _, .nil => rfl
  | _, _, .cons _ b => congrArg (· + 1) b.length
theorem AllR.get {c : Cx} {Z : FZ} : ∀ {vs xs}, AllR c Z vs xs → ∀ (i : Nat) x, xs[i]? = some x → ∃ v, vs[i]? = some v ∧ IRep c Z v x
  | _, _, .nil, i, x, h => by simp at h
  | _, _, .cons a b, 0, x, h => by simp at h; subst h; exact ⟨_, rfl, a⟩
  | _, _, .cons a b, i + 1, x, h => by
    obtain ⟨v, h1, h2⟩ := b.get i x (by simpa using h)
    exact ⟨v, by simpa using h1, h2⟩
theorem AllR.get' {c : Cx} {Z : FZ} : ∀ {vs xs}, AllR c Z vs xs → ∀ (i : Nat) v, vs[i]? = some v → ∃ x, xs[i]? = some x ∧ IRep c Z v x
  | _, _, .nil, i, x, h => by simp at h
  | _, _, .cons a b, 0, x, h => by simp at h; subst h; exact ⟨_, rfl, a⟩
  | _, _, .cons a b, i + 1, x, h => by
    obtain ⟨v, h1, h2⟩ := b.get' i x (by simpa using h)
    exact ⟨v, by simpa using h1, h2⟩
theorem AllR.set {c : Cx} {Z : FZ} {v x} (hv : IRep c Z v x) : ∀ {vs xs}, AllR c Z vs xs → ∀ (i : Nat), AllR c Z (vs.set i v) (xs.set i x)
  | _, _, .nil, i => by simpa using AllR.nil
  | _, _, .cons a b, 0 => .cons hv b
  | _, _, .cons a b, i + 1 => .cons a (b.set hv i)
theorem AllR.append {c : Cx} {Z : FZ} : ∀ {vs xs ws ys}, AllR c Z vs xs → AllR c Z ws ys → AllR c Z (vs ++ ws) (xs ++ ys)
  | _, _, _, _, .nil, h => h
  | _, _, _, _, .cons a b, h => .cons a (b.append h)
theorem AllR.ints {c : Cx} {Z : FZ} : ∀ {vs ns}, IntsAre vs ns → AllR c Z vs (ns.map V.int)
  | _, _, .nil => .nil
  | _, _, .cons n t h => .cons (.int n t) (AllR.ints h)
theorem AllR.intsAre {c : Cx} {Z : FZ} : ∀ {vs} {ns : List Int}, AllR c Z vs (ns.map V.int) → IntsAre vs ns
  | _, [], .nil => .nil
  | _, _ :: _, .cons a b => by cases a; exact .cons _ _ b.intsAre

inductive Rep (c : Cx) (Z : FZ) (h : Heap) : Value → V → Prop
  | imm {v x} : IRep c Z v x → Rep c Z h v x
  | list {a : Addr} {vs : List Value} {l : List V} : h.PlainList a vs.toArray → Z a = none → AllR c Z vs l → Rep c Z h (.ref a) (.list a l)
  | mat {a : Addr} {rs : List Addr} {rows : List (List Bool)} : h.PlainList a (rs.map Value.ref).toArray → Z a = none → rs.length = rows.length → (a :: rs).Nodup →
      (∀ (i : Nat) (r : Addr) (bs : List Bool), rs[i]? = some r → rows[i]? = some bs → h.PlainList r (bs.map Value.bool).toArray ∧ Z r = none) → Rep c Z h (.ref a) (.mat a rs rows)
  | dict {a : Addr} {ks : List Int} {kvs : List (Int × Value)} {ep : Nat} : h.DictAt (intKind c.prog c.w) a kvs ep → kvs.map (·.1) = ks → Z a = none → (a == sysModules) = false → Rep c Z h (.ref a) (.dict a ks)
  | gone {v} : Rep c Z h v .gone

/-- the reps survive: frozen things stay, the feet stay as they are, and are not frozen -/
theorem Rep.go {c : Cx} {Z Z' : FZ} {h h' : Heap} {v x} (r : Rep c Z h v x) (le : FZ.Le Z Z') (k : ∀ a ∈ foot x, ∀ o, h.get? a = some o → h'.get? a = some o) (z : ∀ a ∈ foot x, Z' a = none) : Rep c Z' h' v x := by
  cases r with
  | imm r => exact .imm (r.mono le)
  | list p n al => exact .list (p.at fun o e => k _ (by simp [foot]) o e) (z _ (by simp [foot])) (al.mono le)
  | @mat a rs rows p n l nd rw' =>
    refine .mat (p.at fun o e => k _ (by simp [foot]) o e) (z _ (by simp [foot])) l nd fun i r bs hr hb => ?_
    have hm : r ∈ foot (.mat a rs rows) := List.mem_cons_of_mem _ (List.mem_of_getElem? hr)
    exact ⟨(rw' i r bs hr hb).1.at fun o e => k r hm o e, z r hm⟩
  | dict d e n s => exact .dict (d.at' fun o e => k _ (by simp [foot]) o e) e (z _ (by simp [foot])) s
  | gone => exact .gone
theorem Rep.footZ {c : Cx} {Z : FZ} {h : Heap} {v x} (r : Rep c Z h v x) : ∀ a ∈ foot x, Z a = none := by
  cases r with
  | imm r => cases r <;> simp [foot]
  | list p n al => intro a ha; simp [foot] at ha; subst ha; exact n
  | mat p n l nd rw' =>
    intro a ha
    rcases List.mem_cons.mp ha with e | ha
    · subst e; exact n
    · obtain ⟨i, hi, hr⟩ := List.mem_iff_getElem.mp ha
      exact (rw' i a _ (by simp [hi, hr]) (List.getElem?_eq_getElem (by omega))).2
  | dict d e n s => intro a ha; simp [foot] at ha; subst ha; exact n
  | gone => simp [foot]
theorem Rep.footIn {c : Cx} {Z : FZ} {h : Heap} {v x} (r : Rep c Z h v x) : ∀ a ∈ foot x, ∃ o, h.get? a = some o := by
  cases r with
  | imm r => cases r <;> simp [foot]
  | list p n al => intro a ha; simp [foot] at ha; subst ha; obtain ⟨n, e⟩ := p; exact ⟨_, e⟩
  | mat p n l nd rw' =>
    intro a ha
    rcases List.mem_cons.mp ha with e | ha
    · subst e; obtain ⟨n, e⟩ := p; exact ⟨_, e⟩
    · obtain ⟨i, hi, hr⟩ := List.mem_iff_getElem.mp ha
      obtain ⟨n, e⟩ := (rw' i a _ (by simp [hi, hr]) (List.getElem?_eq_getElem (by omega))).1
      exact ⟨_, e⟩
  | dict d e n s => intro a ha; simp [foot] at ha; subst ha; obtain ⟨o, _, e, _⟩ := d; exact ⟨_, e⟩
  | gone => simp [foot]

structure Base (c : Cx) (Z : FZ) (s : Shared) : Prop where
  zin : ZIn Z s.heap
  base : ∀ a o, c.h₀.get? a = some o → Z a = some o
  gens : s.gens = #[]
  os : s.os = c.os
  drawn : s.drawn = c.drawn

structure CxOk (c : Cx) : Prop where
  g : c.h₀.Ns mainGlobals c.mg
  b : c.h₀.Ns builtinsNs c.mb
  nolimit : c.h₀.NoLimit
  bi : ∀ x : Str, x ≠ "__name__" → c.mb x = bootBuiltins x

structure EnvOk (sc : Scope) (env : Env) : Prop where
  scope : env.scope = sc
  kind : sc.kind = .function
  glob : env.globals = mainGlobals
  bi : env.builtins = builtinsNs
  apart : ∀ x y a, env.cells.lookup x = some a → env.cells.lookup y = some a → x = y
  apartL : ∀ x a, env.cells.lookup x = some a → a ≠ env.locals

structure Fm (env : Env) (h : Heap) (m : Str → Option Value) : Prop where
  ns : ∃ m0, h.Ns env.locals m0 ∧ ∀ x, env.kindOf x = some .local → m0 x = m x
  cell : ∀ x, (env.kindOf x = some .cell ∨ env.kindOf x = some .free) → ∃ a, env.cells.lookup x = some a ∧ h.IsCell a (m x)

theorem Fm.keeps {env : Env} {h h' : Heap} {m} (F : Fm env h m) (k : ∀ a o, h.get? a = some o → h'.get? a = some o) : Fm env h' m where
  ns := let ⟨m0, x, y⟩ := F.ns; ⟨m0, x.keeps k, y⟩
  cell := fun x hx => let ⟨a, y, z⟩ := F.cell x hx; ⟨a, y, z.keeps k⟩

abbrev Rho := List (Str × V)

structure Rd (c : Cx) (env : Env) (Z : FZ) (s : Shared) (ρ : Rho) : Prop extends Base c Z s where
  fm : ∃ m, Fm env s.heap m ∧ ∀ x V, ρ.lookup x = some V → V ≠ .gone → ∃ v, m x = some v ∧ Rep c Z s.heap v V

def Room (k : Nat) (A : Around) : Prop := A.handled = none ∧ A.depth + k ≤ 500 ∧ A.units + 3 * k ≤ 500
theorem Room.mono {k j : Nat} {A : Around} (r : Room k A) (h : j ≤ k) : Room j A := ⟨r.1, by have := r.2.1; omega, by have := r.2.2; omega⟩
theorem Room.depth {k : Nat} {A : Around} (r : Room k A) : A.depth < recursionLimit := by have := r.2.1; unfold recursionLimit; omega
theorem Room.units {k : Nat} {A : Around} (r : Room k A) : A.units + 64 < cLine := by have := r.2.2; unfold cLine; omega
theorem Room.deeper {k : Nat} {A : Around} (r : Room (k + 1) A) (env : Env) : Room k (A.deeper env) := by
  refine ⟨r.1, ?_, ?_⟩
  · show A.depth + 1 + k ≤ 500
    have := r.2.1; omega
  · show A.units + 3 + 3 * k ≤ 500
    have := r.2.2; omega

def Kp (s s' : Shared) : Prop := Keeps s s'

structure Up (Z : FZ) (s : Shared) (Z' : FZ) (s' : Shared) : Prop where
  keeps : Kp s s'
  le : FZ.Le Z Z'
  zin : ZIn Z' s'.heap
  new : ∀ a o, Z' a = some o → Z a = none → s.heap.get? a = none

theorem Kp.get {s s' : Shared} (k : Kp s s') : ∀ a o, s.heap.get? a = some o → s'.heap.get? a = some o := by
  obtain ⟨h, tk, rfl, e⟩ := k; exact e
theorem Kp.gens {s s' : Shared} (k : Kp s s') : s'.gens = s.gens := by obtain ⟨h, tk, rfl, e⟩ := k; rfl
theorem Kp.os {s s' : Shared} (k : Kp s s') : s'.os = s.os := by obtain ⟨h, tk, rfl, e⟩ := k; rfl
theorem Kp.drawn {s s' : Shared} (k : Kp s s') : s'.drawn = s.drawn := by obtain ⟨h, tk, rfl, e⟩ := k; rfl
theorem Kp.rfl' (s : Shared) : Kp s s := ⟨s.heap, s.toks, rfl, fun _ _ e => e⟩
theorem Kp.trans' {s s' s'' : Shared} (x : Kp s s') (y : Kp s' s'') : Kp s s'' := by
  obtain ⟨h, tk, rfl, e⟩ := x
  obtain ⟨h', tk', rfl, e'⟩ := y
  exact ⟨h', tk', rfl, fun a o k => e' a o (e a o k)⟩
theorem Kp.mk' {s : Shared} {h : Heap} {tk : Nat} (k : ∀ a o, s.heap.get? a = some o → h.get? a = some o) : Kp s { s with heap := h, toks := tk } := ⟨h, tk, rfl, k⟩
theorem Kp.tok {s : Shared} {tk : Nat} : Kp s { s with toks := tk } := ⟨s.heap, tk, rfl, fun _ _ e => e⟩
theorem Kp.fresh {s s' : Shared} (k : Kp s s') {a : Addr} (h : s'.heap.get? a = none) : s.heap.get? a = none := by
  cases e : s.heap.get? a with
  | none => rfl
  | some o => have := k.get a o e; rw [h] at this; cases this

theorem Up.refl {Z : FZ} {s : Shared} (z : ZIn Z s.heap) : Up Z s Z s := ⟨Kp.rfl' s, fun _ _ e => e, z, fun _ _ e f => by rw [e] at f; cases f⟩
theorem Up.same {Z : FZ} {s s' : Shared} (z : ZIn Z s.heap) (k : Kp s s') : Up Z s Z s' := ⟨k, fun _ _ e => e, fun a o e => k.get a o (z a o e), fun _ _ e f => by rw [e] at f; cases f⟩
theorem Up.trans {Z Z' Z'' : FZ} {s s' s'' : Shared} (x : Up Z s Z' s') (y : Up Z' s' Z'' s'') : Up Z s Z'' s'' :=
  ⟨x.keeps.trans' y.keeps, x.le.trans y.le, y.zin, fun a o e f => by
    cases g : Z' a with
    | some o' => exact x.new a o' g f
    | none => exact x.keeps.fresh (y.new a o e g)⟩

theorem Base.up {c : Cx} {Z Z' : FZ} {s s' : Shared} (b : Base c Z s) (u : Up Z s Z' s') : Base c Z' s' :=
  ⟨u.zin, fun a o e => u.le a o (b.base a o e), (u.keeps.gens).trans b.gens, (u.keeps.os).trans b.os, (u.keeps.drawn).trans b.drawn⟩
theorem Rep.up {c : Cx} {Z Z' : FZ} {s s' : Shared} {v x} (r : Rep c Z s.heap v x) (u : Up Z s Z' s') : Rep c Z' s'.heap v x :=
  r.go u.le (fun a _ o e => u.keeps.get a o e) fun a ha => by
    cases e : Z' a with
    | none => rfl
    | some o =>
      obtain ⟨o', h⟩ := r.footIn a ha
      rw [u.new a o e (r.footZ a ha)] at h; cases h
theorem Rd.up {c : Cx} {env : Env} {Z Z' : FZ} {s s' : Shared} {ρ : Rho} (r : Rd c env Z s ρ) (u : Up Z s Z' s') : Rd c env Z' s' ρ :=
  { toBase := r.toBase.up u
    fm := let ⟨m, F, h⟩ := r.fm; ⟨m, F.keeps u.keeps.get, fun x V hx hg => let ⟨v, e, q⟩ := h x V hx hg; ⟨v, e, q.up u⟩⟩ }

abbrev Out := FZ → Shared → FZ → Shared → Value → Prop
/-- the expression e, read alone -/
def Ev (c : Cx) (k : Nat) (sc : Scope) (ρ : Rho) (e : Expr) (R : Out) : Prop :=
  ∀ env A s Z, EnvOk sc env → Room k A → Rd c env Z s ρ →
    wpAny (model c.prog c.w) A (eval e env) (fun v s' => ∃ Z', Up Z s Z' s' ∧ R Z s Z' s' v) (fun _ _ => False) s

/-- the value is x -/
def Is (c : Cx) (x : V) : Out := fun _ _ Z' s' v => Rep c Z' s'.heap v x
/-- a new list -/
def New (c : Cx) (l : List V) : Out := fun _ s Z' s' v => ∃ a vs, v = .ref a ∧ s.heap.get? a = none ∧ Z' a = none ∧ s'.heap.PlainList a vs.toArray ∧ AllR c Z' vs l

def Tst (c : Cx) (k : Nat) (sc : Scope) (ρ : Rho) (e : Expr) (b : Bool) : Prop :=
  ∀ env A s Z, EnvOk sc env → Room k A → Rd c env Z s ρ →
    wpAny (model c.prog c.w) A (isTrue e env (eval e env)) (fun r s' => r = b ∧ Kp s s') (fun _ _ => False) s

theorem fm_gone : True := trivial

section
variable {c : Cx} {k : Nat} {sc : Scope} {ρ : Rho} {pos : Pos}

theorem Ev.mono {e : Expr} {R R' : Out} (h : Ev c k sc ρ e R) (hR : ∀ Z s Z' s' v, ZIn Z' s'.heap → Kp s s' → FZ.Le Z Z' → R Z s Z' s' v → R' Z s Z' s' v) : Ev c k sc ρ e R' := fun env A s Z hE hA hr =>
  wpAny_mono (h env A s Z hE hA hr) (fun v s' ⟨Z', u, q⟩ => ⟨Z', u, hR _ _ _ _ _ u.zin u.keeps u.le q⟩) fun _ _ x => x

/-- what is new may be frozen -/
theorem Ev.freeze {e : Expr} {l : List V} (h : Ev c k sc ρ e (New c l)) : Ev c k sc ρ e (Is c (.fl l)) := fun env A s Z hE hA hr =>
  wpAny_mono (h env A s Z hE hA hr) (fun v s' ⟨Z', u, a, vs, hv, hn, hz, ⟨n, hp⟩, hal⟩ => by
    subst hv
    have le : FZ.Le Z' (fun b => if b = a then some { cls := .type "list", data := .seq vs.toArray n } else Z' b) := fun b o e => by
      by_cases hb : b = a
      · subst hb; rw [hz] at e; cases e
      · simp [hb, e]
    refine ⟨_, ⟨u.keeps, u.le.trans le, fun b o e => ?_, fun b o e f => ?_⟩, .imm (.fl (vs := vs) ⟨{ cls := .type "list", data := .seq vs.toArray n }, ?_, rfl, n, rfl⟩ (hal.mono le))⟩
    · by_cases hb : b = a
      · subst hb; simp at e; subst e; exact hp
      · simp [hb] at e; exact u.zin b o e
    · by_cases hb : b = a
      · subst hb; exact hn
      · simp [hb] at e; exact u.new b o e f
    · simp) fun _ _ x => x

theorem Ev.int (i : Int) (kk : Nat) : Ev c k sc ρ (.Constant (.int i) kk pos) (Is c (.int i)) := fun _ _ _ _ _ _ hr =>
  wpAny_Constant_int ⟨_, Up.same hr.zin Kp.tok, .imm (.int _ _)⟩
theorem Ev.bool (b : Bool) (kk : Nat) : Ev c k sc ρ (.Constant (.bool b) kk pos) (Is c (.bool b)) := fun _ _ _ _ _ _ hr =>
  wpAny_Constant_bool ⟨_, Up.refl hr.zin, .imm (.bool _)⟩
theorem Ev.none (kk : Nat) : Ev c k sc ρ (.Constant .none kk pos) (Is c .none) := fun _ _ _ _ _ _ hr =>
  wpAny_Constant_none ⟨_, Up.refl hr.zin, .imm .none⟩

theorem Ev.name {x : Str} {V : V} (h : ρ.lookup x = some V) (hk : sc.names.lookup x = some .local ∨ sc.names.lookup x = some .cell ∨ sc.names.lookup x = some .free) (hg : V ≠ .gone)
    (hd : (x == ("__debug__" : Str)) = false := by decide) (hcd : (x == ("__classdict__" : Str)) = false := by decide) : Ev c k sc ρ (.Name x pos) (Is c V) := fun env A s Z hE hA hr => by
  obtain ⟨m, F, hv⟩ := hr.fm
  obtain ⟨v, hm, hR⟩ := hv x V h hg
  have hkind : env.scope.kind = .function := hE.scope ▸ hE.kind
  have hko : env.kindOf x = sc.names.lookup x := by unfold Env.kindOf; rw [hE.scope]
  refine wpAny_Name ?_ hd
  have fin : ∃ Z', Up Z s Z' s ∧ Is c V Z s Z' s v := ⟨Z, Up.refl hr.zin, hR⟩
  rcases hk with hk | hk | hk
  · obtain ⟨m0, n, e⟩ := F.ns
    exact wpAny_loadName_local hkind (hko.trans hk) n ((e x (hko.trans hk)).trans hm) fin
  · obtain ⟨a, e, f⟩ := F.cell x (.inl (hko.trans hk))
    exact wpAny_loadName_cell hkind (hko.trans hk) e (hm ▸ f) fin
  · obtain ⟨a, e, f⟩ := F.cell x (.inr (hko.trans hk))
    exact wpAny_loadName_free hkind (hko.trans hk) e (hm ▸ f) fin hcd
end
end Mine
end
section
open PySem PyProof.Rows
set_option maxRecDepth 10000
set_option linter.unusedVariables false
set_option linter.unusedSimpArgs false
namespace Mine
open SeqAt AutoSeq1 MeetsSeq MeetsSeq2 MeetsSeq3 SeqRoads2

def lexLt : List Int → List Int → Bool
  | [], [] => false
  | [], _ :: _ => true
  | _ :: _, [] => false
  | a :: as, b :: bs => if a = b then lexLt as bs else decide (a < b)

theorem ints_get : ∀ {vs : List Value} {ns : List Int}, IntsAre vs ns → ∀ i : Nat, (vs[i]? = none ∧ ns.drop i = [] ∧ vs.length ≤ i) ∨ ∃ n t, vs[i]? = some (.int n t) ∧ ns.drop i = n :: ns.drop (i + 1) ∧ i < vs.length
  | _, _, .nil, i => .inl (by simp)
  | _, _, .cons n t h, 0 => .inr ⟨n, t, rfl, rfl, by simp⟩
  | _, _, .cons n t h, i + 1 => by simpa using ints_get h i

theorem list_lt_loop (l b : Addr) (items items2 : Array Value) (n n2 : Nat) (dd dd2 : Option Addr) (sl sl2 : Array (Option Value)) (ns ms : List Int) (hi : IntsAre items.toList ns) (hj : IntsAre items2.toList ms) (k : Nat) :
    ∀ i : Nat, items.size - i = k → i ≤ items.size → i ≤ items2.size → Meets (Builtin.«list.__eq__.loop» ⟨[.ref l, .ref b, rawInt i, rawInt 0], []⟩)
      (fun A R s => s.heap.get? l = some { cls := .type "list", dict := dd, data := .seq items n, slots := sl } ∧ s.heap.get? b = some { cls := .type "list", dict := dd2, data := .seq items2 n2, slots := sl2 } ∧
        R (.ok (.ret (.bool (lexLt (ns.drop i) (ms.drop i))))) s) := by
  induction k with
  | zero =>
    intro i hk ha hb' prog w A R s h
    obtain ⟨hp, g, d, tk, os⟩ := s; obtain ⟨hl, hb, h⟩ := h
    rcases ints_get hi i with ⟨e1, d1, l1⟩ | ⟨a, t, e1, d1, l1⟩
    · have hi1 : items[((i : Nat) : Int).toNat]? = none := by simpa using e1
      wp_walk using wpAny_loadPart' hl, wpAny_loadPart' hb
      rw [hi1]
      wp_walk using wpAny_loadPart' hl, wpAny_loadPart' hb
      show R (.ok (.ret (.bool (decide (items.size < items2.size))))) _
      have l1' : items.size ≤ i := by simpa using l1
      rw [d1] at h
      have e : decide (items.size < items2.size) = lexLt [] (ms.drop i) := by
        rcases ints_get hj i with ⟨e2, d2, l2⟩ | ⟨a, t, e2, d2, l2⟩
        · have l2' : items2.size ≤ i := by simpa using l2
          rw [d2]; simp [lexLt]; omega
        · have l2' : i < items2.size := by simpa using l2
          rw [d2]; simp [lexLt]; omega
      rw [e]; exact h
    · have l1' : i < items.size := by simpa using l1
      omega
  | succ k ih =>
    intro i hk ha hb' prog w A R s h
    obtain ⟨hp, g, d, tk, os⟩ := s; obtain ⟨hl, hb, h⟩ := h
    rcases ints_get hi i with ⟨e1, d1, l1⟩ | ⟨a, t, e1, d1, l1⟩
    · have l1' : items.size ≤ i := by simpa using l1
      omega
    · have hi1 : items[((i : Nat) : Int).toNat]? = some (.int a t) := by simpa using e1
      have l1' : i < items.size := by simpa using l1
      rcases ints_get hj i with ⟨e2, d2, l2⟩ | ⟨a', t', e2, d2, l2⟩
      · have hi2 : items2[((i : Nat) : Int).toNat]? = none := by simpa using e2
        have l2' : items2.size ≤ i := by simpa using l2
        wp_walk using wpAny_loadPart' hl, wpAny_loadPart' hb
        rw [hi1, hi2]
        wp_walk using wpAny_loadPart' hl, wpAny_loadPart' hb
        show R (.ok (.ret (.bool (decide (items.size < items2.size))))) _
        rw [d1, d2] at h
        have e : decide (items.size < items2.size) = lexLt (a :: ns.drop (i + 1)) [] := by simp [lexLt]; omega
        rw [e]; exact h
      · have hi2 : items2[((i : Nat) : Int).toNat]? = some (.int a' t') := by simpa using e2
        have l2' : i < items2.size := by simpa using l2
        have hc : ((i : Int) + 1) = ((i + 1 : Nat) : Int) := by push_cast; rfl
        wp_walk using wpAny_loadPart' hl, wpAny_loadPart' hb
        rw [hi1, hi2]
        rw [d1, d2] at h
        refine wpAny_bind (wpAny_eqBool_int ?_)
        by_cases hab : a = a'
        · subst hab
          simp only [lexLt, if_true] at h
          simp only [decide_true, beq_self_eq_true]
          wp_walk
          rw [hc]
          exact ⟨plainId_quiet plain_eq_loop _, codeAny_builtin entry_eq_loop (by
            rw [Around.under_plainId plain_eq_loop _]
            exact ih (i + 1) (by omega) (by omega) (by omega) prog w A R _ ⟨hl, hb, h⟩)⟩
        · simp only [lexLt, if_neg hab] at h
          have hab' : (a == a') = false := by simpa using hab
          simp only [hab', hab, decide_false]
          wp_walk using wpAny_loadPart' hl, wpAny_loadPart' hb
          rw [hi1, hi2]
          show wpAny _ _ ((richCompare .Lt (.int a t) (.int a' t')) >>= fun r => ret r) _ _ _
          exact wpAny_bind (wpAny_lt_int (wpAny_pure h))

def LtAt (A : Around) (s : Shared) (v w : Value) (b : Bool) : Prop :=
  ∀ (prog : Program) (wd : World) (E : Value → Shared → Prop) (Q : Value → Shared → Prop), Q (.bool b) s → wpAny (model prog wd) A (richCompare .Lt v w) Q E s

theorem list_lt (l b : Addr) (items items2 : Array Value) (n n2 : Nat) (dd dd2 : Option Addr) (sl sl2 : Array (Option Value)) (ns ms : List Int) (hi : IntsAre items.toList ns) (hj : IntsAre items2.toList ms) :
    Meets (Builtin.«list.__lt__» ⟨[.ref l, .ref b], []⟩)
      (fun A R s => s.heap.get? l = some { cls := .type "list", dict := dd, data := .seq items n, slots := sl } ∧ s.heap.get? b = some { cls := .type "list", dict := dd2, data := .seq items2 n2, slots := sl2 } ∧
        R (.ok (.ret (.bool (lexLt ns ms)))) s) := by
  intro prog w A R s h
  obtain ⟨hp, g, d, tk, os⟩ := s; obtain ⟨hl, hb, h⟩ := h
  have f3 := AutoSeq1.sub_list_list
  wp_walk using wpAny_loadPart' hl, wpAny_loadPart' hb
  exact ⟨plainId_quiet plain_eq_loop _, codeAny_builtin entry_eq_loop (by
    rw [Around.under_plainId plain_eq_loop _]
    exact list_lt_loop l b items items2 n n2 dd dd2 sl sl2 ns ms hi hj _ 0 rfl (by omega) (by omega) prog w A R _ ⟨hl, hb, by simpa using h⟩)⟩

theorem LtAt.ints {A : Around} {s : Shared} (a b : Int) (t u : Tok) : LtAt A s (.int a t) (.int b u) (decide (a < b)) := fun prog wd E Q h => wpAny_lt_int h

theorem LtAt.lists {A : Around} {s : Shared} {l b : Addr} {items items2 : Array Value} {ns ms : List Int} (hl : s.heap.IsList l items) (hb : s.heap.IsList b items2) (hi : IntsAre items.toList ns) (hj : IntsAre items2.toList ms) (hu : A.units < cLine) :
    LtAt A s (.ref l) (.ref b) (lexLt ns ms) := fun prog w E Q h => by
  obtain ⟨⟨cls, dd, data, sl⟩, ho, hc, n, hd⟩ := id hl
  obtain ⟨⟨cls2, dd2, data2, sl2⟩, ho2, hc2, n2, hd2⟩ := id hb
  simp only at hc hd hc2 hd2
  subst hc hd hc2 hd2
  exact richCompare_meets_room (op := .Lt) ⟨_, ho, rfl⟩ ⟨_, ho2, rfl⟩ F.slot_list_lt F.entry_list_lt (F.args_list_lt_2 _ _) (list_lt l b items items2 n n2 dd dd2 sl sl2 ns ms hi hj)
    ⟨ho, ho2, show Value.bool (lexLt ns ms) ≠ Value.notImplemented ∧ Q (.bool (lexLt ns ms)) s from ⟨(fun x => nomatch x), h⟩⟩ hu

theorem tuple_lt2 (l b : Addr) (x0 x1 y0 y1 : Value) (n n2 : Nat) (dd dd2 : Option Addr) (sl sl2 : Array (Option Value)) (e0 e1 r0 r1 : Bool) :
    Meets (Builtin.«tuple.__lt__» ⟨[.ref l, .ref b], []⟩)
      (fun A R s => s.heap.get? l = some { cls := .type "tuple", dict := dd, data := .seq #[x0, x1] n, slots := sl } ∧ s.heap.get? b = some { cls := .type "tuple", dict := dd2, data := .seq #[y0, y1] n2, slots := sl2 } ∧
        EqAt A.in1 s x0 y0 e0 ∧ EqAt A.in1 s x1 y1 e1 ∧ (e0 = false → LtAt A.in1 s x0 y0 r0) ∧ (e1 = false → LtAt A.in1 s x1 y1 r1) ∧
        R (.ok (.ret (.bool (if e0 then (if e1 then false else r1) else r0)))) s) :=
  .of_wp fun prog w A R s h => by
    obtain ⟨hp, g, d, tk, os⟩ := s; obtain ⟨hl, hb, he0, he1, hr0, hr1, h⟩ := h
    have f2 := AutoSeq1.sub_tuple_tuple
    wp_walk using wpAny_loadPart' hl, wpAny_loadPart' hb, wpAny_forIn_list _ (fun rest b s' => b.1 = none ∧ s' = ⟨hp, g, d, tk, os⟩ ∧ (rest = [(x0, y0), (x1, y1)] ∨ (rest = [(x1, y1)] ∧ e0 = true) ∨ (rest = [] ∧ e0 = true ∧ e1 = true))) _
    case turn =>
      rintro ⟨x, y⟩ rest b s' ⟨hb', rfl, hr⟩
      rcases hr with hr | ⟨hr, h0⟩ | ⟨hr, _⟩
      · injection hr with h1 h2
        injection h1 with h3 h4
        subst h3 h4 h2
        refine wpAny_bind (he0 prog w _ _ ?_)
        cases e0 with
        | true =>
          wp_walk
          exact ⟨rfl, rfl, .inr (.inl ⟨rfl, rfl⟩)⟩
        | false =>
          refine wpAny_bind (wpAny_rule (wpAny_bind (hr0 rfl prog w _ _ ?_)))
          wp_walk
          exact ⟨_, rfl, by simpa using h⟩
      · injection hr with h1 h2
        injection h1 with h3 h4
        subst h3 h4 h2 h0
        refine wpAny_bind (he1 prog w _ _ ?_)
        cases e1 with
        | true =>
          wp_walk
          exact ⟨rfl, rfl, .inr (.inr ⟨rfl, rfl, rfl⟩)⟩
        | false =>
          refine wpAny_bind (wpAny_rule (wpAny_bind (hr1 rfl prog w _ _ ?_)))
          wp_walk
          exact ⟨_, rfl, by simpa using h⟩
      · cases hr
    case fin =>
      rintro ⟨b1, b2⟩ s' ⟨hb', rfl, hr⟩
      simp only at hb'
      subst hb'
      rcases hr with hr | ⟨hr, h0⟩ | ⟨_, h0, h1⟩
      · cases hr
      · cases hr
      · subst h0 h1
        wp_walk
        exact ⟨_, rfl, by simpa [Builtin.Tuple.tupleCompareSizes] using h⟩
    case h =>
      exact ⟨rfl, rfl, .inl rfl⟩

theorem LtAt.tuples2 {A : Around} {s : Shared} {l b : Addr} {x0 x1 y0 y1 : Value} {e0 e1 r0 r1 : Bool} (hl : s.heap.IsTuple l #[x0, x1]) (hb : s.heap.IsTuple b #[y0, y1]) (hu : A.units < cLine)
    (he0 : EqAt A.in1 s x0 y0 e0) (he1 : EqAt A.in1 s x1 y1 e1) (hr0 : e0 = false → LtAt A.in1 s x0 y0 r0) (hr1 : e1 = false → LtAt A.in1 s x1 y1 r1) :
    LtAt A s (.ref l) (.ref b) (if e0 then (if e1 then false else r1) else r0) := fun prog w E Q h => by
  obtain ⟨⟨cls, dd, data, sl⟩, ho, hc, n, hd⟩ := id hl
  obtain ⟨⟨cls2, dd2, data2, sl2⟩, ho2, hc2, n2, hd2⟩ := id hb
  simp only at hc hd hc2 hd2
  subst hc hd hc2 hd2
  exact richCompare_meets_room (op := .Lt) ⟨_, ho, rfl⟩ ⟨_, ho2, rfl⟩ F.slot_tuple_lt F.entry_tuple_lt (F.args_tuple_lt_2 _ _) (tuple_lt2 l b x0 x1 y0 y1 n n2 dd dd2 sl sl2 e0 e1 r0 r1)
    ⟨ho, ho2, he0, he1, hr0, hr1, show Value.bool (if e0 then (if e1 then false else r1) else r0) ≠ Value.notImplemented ∧ Q (.bool (if e0 then (if e1 then false else r1) else r0)) s from ⟨(fun x => nomatch x), h⟩⟩ hu
end Mine
end
section
open PySem PyProof.Rows
set_option maxRecDepth 10000
set_option linter.unusedVariables false
set_option linter.unusedSimpArgs false
namespace Mine
open SeqAt AutoSeq1 MeetsSeq MeetsSeq2 MeetsSeq3 SeqRoads2

theorem IsSeq.uniq {Z : FZ} {T U : String} {a : Addr} {vs ws : List Value} (x : IsSeq Z T a vs) (y : IsSeq Z U a ws) : vs = ws := by
  obtain ⟨o, e, c, n, d⟩ := x
  obtain ⟨o', e', c', n', d'⟩ := y
  rw [e] at e'; cases e'
  rw [d] at d'
  have := congrArg (fun x => match x with | Data.seq a _ => a.toList | _ => []) d'
  simpa using this
theorem IntsAre.uniq : ∀ {vs : List Value} {ns ms : List Int}, IntsAre vs ns → IntsAre vs ms → ns = ms
  | _, _, _, .nil, .nil => rfl
  | _, _, _, .cons n t h, .cons _ _ h' => by rw [IntsAre.uniq h h']

def vEq : V → V → Option Bool
  | .int a, .int b => some (a == b)
  | .bool a, .bool b => some (a == b)
  | .pair a b, .pair a' b' => some (a == a' && b == b')
  | .item l a, .item l' a' => some (l == l' && a == a')
  | _, _ => none

def vLt : V → V → Option Bool
  | .int a, .int b => some (decide (a < b))
  | .pair a b, .pair a' b' => some (if a = a' then decide (b < b') else decide (a < a'))
  | .item l a, .item l' a' => some (if l = l' then decide (a < a') else lexLt l l')
  | _, _ => none

section
variable {c : Cx} {Z : FZ} {A : Around} {s : Shared}

theorem ints_eqAt {l b : Addr} {vs ws : List Value} {ns ms : List Int} (z : ZIn Z s.heap) (hl : IsSeq Z "list" l vs) (hb : IsSeq Z "list" b ws) (hi : IntsAre vs ns) (hj : IntsAre ws ms) (hu : A.units + 4 < cLine) :
    EqAt A s (.ref l) (.ref b) (ns == ms) := by
  by_cases hlb : l = b
  · subst hlb
    have := hl.uniq hb; subst this
    have := IntsAre.uniq hi hj; subst this
    simpa using EqAt.same (A := A) (s := s) (.ref l)
  · refine EqAt.of_refs hlb ?_
    by_cases hs : vs.length = ws.length
    · have key := RcAt.lists (A := A) (s := s) (e := fun j => ns[j]? == ms[j]?) (hl.list z) (hb.list z) (by simpa using hs) (by omega) (fun j h1 h2 => by
        rcases ints_get hi j with ⟨e1, d1, l1⟩ | ⟨a, t, e1, d1, l1⟩
        · simp at h1; omega
        rcases ints_get hj j with ⟨e2, d2, l2⟩ | ⟨a', t', e2, d2, l2⟩
        · simp at h2; omega
        have q1 : vs.toArray[j] = .int a t := by
          have : vs[j]'(by simpa using h1) = .int a t := by simpa [List.getElem?_eq_some_iff] using List.getElem_of_getElem? e1 |>.2
          simpa using this
        have q2 : ws.toArray[j] = .int a' t' := by
          have : ws[j]'(by simpa using h2) = .int a' t' := by simpa [List.getElem?_eq_some_iff] using List.getElem_of_getElem? e2 |>.2
          simpa using this
        have n1 : ns[j]? = some a := by have := congrArg List.head? d1; simpa using this
        have n2 : ms[j]? = some a' := by have := congrArg List.head? d2; simpa using this
        rw [q1, q2, n1, n2]
        simpa using EqAt.int_int (A := A.in1) (s := s) a t a' t')
      have e : ((List.range vs.toArray.size).all fun j => ns[j]? == ms[j]?) = (ns == ms) := by
        rw [Bool.eq_iff_iff]
        simp only [List.all_eq_true, List.mem_range, beq_iff_eq, List.size_toArray]
        have ln := IntsAre.length hi
        have lm := IntsAre.length hj
        constructor
        · intro h
          refine List.ext_getElem? fun j => ?_
          by_cases hj' : j < vs.length
          · exact h j hj'
          · rw [List.getElem?_eq_none (by omega), List.getElem?_eq_none (by omega)]
        · rintro rfl j _; rfl
      rw [e] at key; exact key
    · have ln := IntsAre.length hi
      have lm := IntsAre.length hj
      have : (ns == ms) = false := by
        rw [beq_eq_false_iff_ne]; rintro rfl; omega
      rw [this]
      exact RcAt.lists_lengths (hl.list z) (hb.list z) (by simpa using hs) (by omega)

theorem pairs_items {a b a' b' : Value} {e0 e1 : Bool} (h0 : EqAt A s a a' e0) (h1 : EqAt A s b b' e1) : ∀ j (k1 : j < #[a, b].size) (k2 : j < #[a', b'].size), EqAt A s #[a, b][j] #[a', b'][j] (if j = 0 then e0 else e1) := by
  intro j k1 k2
  rcases j with _ | _ | j
  · exact h0
  · exact h1
  · simp at k1; omega

theorem eqAt_V {v w : Value} {x y : V} {r : Bool} (z : ZIn Z s.heap) (hv : IRep c Z v x) (hw : IRep c Z w y) (hu : A.units + 8 < cLine) (h : vEq x y = some r) : EqAt A s v w r := by
  cases hv with
  | int i t => cases hw <;> simp only [vEq] at h <;> first | cases h | skip
               exact EqAt.int_int _ _ _ _
  | bool i => cases hw <;> simp only [vEq] at h <;> first | cases h | skip
              exact EqAt.bool_bool _ _
  | pair p =>
    cases hw <;> simp only [vEq] at h <;> first | cases h | skip
    rename_i T a b t u T' a' b' t' u' q
    by_cases hT : T = T'
    · subst hT
      have := p.uniq q
      simp only [List.cons.injEq, Value.int.injEq, and_true] at this
      obtain ⟨⟨rfl, rfl⟩, rfl, rfl⟩ := this
      simpa using EqAt.same (A := A) (s := s) (.ref T)
    · refine EqAt.of_refs hT ?_
      have key := RcAt.tuples (A := A) (s := s) (p.tuple z) (q.tuple z) (by omega) (pairs_items (EqAt.int_int a t a' t') (EqAt.int_int b u b' u'))
      simpa [List.range, List.range.loop] using key
  | item p pl pi =>
    cases hw <;> simp only [vEq] at h <;> first | cases h | skip
    rename_i T l ls v t vs T' l' ls' v' t' vs' q ql qi
    by_cases hT : T = T'
    · subst hT
      have := p.uniq q
      simp only [List.cons.injEq, Value.int.injEq, Value.ref.injEq, and_true] at this
      obtain ⟨rfl, rfl, rfl⟩ := this
      have := pl.uniq ql; subst this
      have := IntsAre.uniq pi qi; subst this
      simpa using EqAt.same (A := A) (s := s) (.ref T)
    · refine EqAt.of_refs hT ?_
      have key := RcAt.tuples (A := A) (s := s) (p.tuple z) (q.tuple z) (by omega) (pairs_items (ints_eqAt z pl ql pi qi (by show A.units + 1 + 4 < cLine; omega)) (EqAt.int_int v t v' t'))
      simpa [List.range, List.range.loop] using key
  | _ => cases hw <;> cases h

theorem neAt_V {v w : Value} {x y : V} {r : Bool} (z : ZIn Z s.heap) (hv : IRep c Z v x) (hw : IRep c Z w y) (hu : A.units + 8 < cLine) (h : vEq x y = some r) : RcNeAt A s v w (!r) := by
  cases hv with
  | int i t => cases hw <;> simp only [vEq] at h <;> first | cases h | skip
               exact RcNeAt.int_int _ _ _ _
  | bool i => cases hw <;> simp only [vEq] at h <;> first | cases h | skip
              exact RcNeAt.bool_bool _ _
  | pair p =>
    cases hw <;> simp only [vEq] at h <;> first | cases h | skip
    rename_i T a b t u T' a' b' t' u' q
    have key := RcNeAt.tuples (A := A) (s := s) (p.tuple z) (q.tuple z) (by omega) (pairs_items (EqAt.int_int a t a' t') (EqAt.int_int b u b' u'))
    simpa [List.range, List.range.loop] using key
  | item p pl pi =>
    cases hw <;> simp only [vEq] at h <;> first | cases h | skip
    rename_i T l ls v t vs T' l' ls' v' t' vs' q ql qi
    have key := RcNeAt.tuples (A := A) (s := s) (p.tuple z) (q.tuple z) (by omega) (pairs_items (ints_eqAt z pl ql pi qi (by show A.units + 1 + 4 < cLine; omega)) (EqAt.int_int v t v' t'))
    simpa [List.range, List.range.loop] using key
  | _ => cases hw <;> cases h

theorem ltAt_V {v w : Value} {x y : V} {r : Bool} (z : ZIn Z s.heap) (hv : IRep c Z v x) (hw : IRep c Z w y) (hu : A.units + 8 < cLine) (h : vLt x y = some r) : LtAt A s v w r := by
  cases hv with
  | int i t => cases hw <;> simp only [vLt] at h <;> first | cases h | skip
               exact LtAt.ints _ _ _ _
  | pair p =>
    cases hw <;> simp only [vLt] at h <;> first | cases h | skip
    rename_i T a b t u T' a' b' t' u' q
    have key := LtAt.tuples2 (A := A) (s := s) (p.tuple z) (q.tuple z) (by omega) (EqAt.int_int a t a' t') (EqAt.int_int b u b' u') (fun _ => LtAt.ints a a' t t') (fun _ => LtAt.ints b b' u u')
    have e : (if (a == a') = true then if (b == b') = true then false else decide (b < b') else decide (a < a')) = (if a = a' then decide (b < b') else decide (a < a')) := by
      by_cases h1 : a = a' <;> by_cases h2 : b = b' <;> simp [h1, h2]
    rw [e] at key; exact key
  | item p pl pi =>
    cases hw <;> simp only [vLt] at h <;> first | cases h | skip
    rename_i T l ls v t vs T' l' ls' v' t' vs' q ql qi
    have key := LtAt.tuples2 (A := A) (s := s) (p.tuple z) (q.tuple z) (by omega) (ints_eqAt z pl ql pi qi (by show A.units + 1 + 4 < cLine; omega)) (EqAt.int_int v t v' t')
      (fun _ => LtAt.lists (pl.list z) (ql.list z) (by simpa using pi) (by simpa using qi) (by show A.units + 1 < cLine; omega)) (fun _ => LtAt.ints v v' t t')
    have e : (if (ls == ls') = true then if (v == v') = true then false else decide (v < v') else lexLt ls ls') = (if ls = ls' then decide (v < v') else lexLt ls ls') := by
      by_cases h1 : ls = ls' <;> by_cases h2 : v = v' <;> simp [h1, h2]
    rw [e] at key; exact key
  | _ => cases hw <;> cases h
end

/-- what is read as a list -/
def V.items : V → Option (List V)
  | .fl l => some l
  | .list _ l => some l
  | _ => Option.none

section
variable {c : Cx} {Z : FZ} {A : Around} {s : Shared}
theorem Rep.isList {v : Value} {x : V} {l : List V} (r : Rep c Z s.heap v x) (z : ZIn Z s.heap) (h : x.items = some l) : ∃ a vs, v = .ref a ∧ s.heap.IsList a vs.toArray ∧ AllR c Z vs l := by
  cases r with
  | imm r =>
    cases r with
    | fl e f => cases h; exact ⟨_, _, rfl, e.list z, f⟩
    | _ => cases h
  | list p n al => cases h; exact ⟨_, _, rfl, p.isList, al⟩
  | _ => cases h

def CmpOk (c : Cx) (op : CmpOp) (x y : V) (b : Bool) : Prop := ∀ A s Z v w, Room 0 A → Base c Z s → Rep c Z s.heap v x → Rep c Z s.heap w y →
  wpAny (model c.prog c.w) A (compareOp op v w) (fun r s' => r = .bool b ∧ Kp s s') (fun _ _ => False) s

theorem Room.u8 {k : Nat} {A : Around} (r : Room k A) : A.units + 8 < cLine := by have := r.2.2; unfold cLine; omega
theorem Rep.immOf {v : Value} {x : V} {r : Rep c Z s.heap v x} (h : foot x = []) (hg : x ≠ .gone) : IRep c Z v x := by
  cases r with
  | imm r => exact r
  | list => cases h
  | mat => cases h
  | dict => cases h
  | gone => exact absurd rfl hg
theorem vEq_imm {x y : V} {b : Bool} (h : vEq x y = some b) : foot x = [] ∧ x ≠ .gone ∧ foot y = [] ∧ y ≠ .gone := by
  cases x <;> cases y <;> simp [vEq, foot] at h ⊢
theorem vLt_imm {x y : V} {b : Bool} (h : vLt x y = some b) : foot x = [] ∧ x ≠ .gone ∧ foot y = [] ∧ y ≠ .gone := by
  cases x <;> cases y <;> simp [vLt, foot] at h ⊢
end
section
variable {c : Cx}
theorem Kp.rf (s : Shared) : Kp s s := Kp.rfl' s
theorem CmpOk.eq {x y : V} {b : Bool} (h : vEq x y = some b) (hx : ∀ a, x ≠ .int a ∧ True → True := fun _ _ => trivial) : CmpOk c .NotEq x y (!b) := fun A s Z v w hA hB hv hw => by
  obtain ⟨h1, h2, h3, h4⟩ := vEq_imm h
  exact neAt_V hB.zin (Rep.immOf (r := hv) h1 h2) (Rep.immOf (r := hw) h3 h4) hA.u8 h _ _ _ _ ⟨rfl, Kp.rf s⟩
theorem CmpOk.lt {x y : V} {b : Bool} (h : vLt x y = some b) : CmpOk c .Lt x y b := fun A s Z v w hA hB hv hw => by
  obtain ⟨h1, h2, h3, h4⟩ := vLt_imm h
  exact ltAt_V hB.zin (Rep.immOf (r := hv) h1 h2) (Rep.immOf (r := hw) h3 h4) hA.u8 h _ _ _ _ ⟨rfl, Kp.rf s⟩
theorem int_inv {Z : FZ} {h : Heap} {v : Value} {a : Int} (r : Rep c Z h v (.int a)) : ∃ t, v = .int a t := by
  cases r with | imm r => cases r; exact ⟨_, rfl⟩
theorem bool_inv {Z : FZ} {h : Heap} {v : Value} {a : Bool} (r : Rep c Z h v (.bool a)) : v = .bool a := by
  cases r with | imm r => cases r; rfl
theorem none_inv {Z : FZ} {h : Heap} {v : Value} (r : Rep c Z h v .none) : v = .none := by
  cases r with | imm r => cases r; rfl
theorem CmpOk.ilt (a b : Int) : CmpOk c .Lt (.int a) (.int b) (decide (a < b)) := fun A s Z v w hA hB hv hw => by
  obtain ⟨t, rfl⟩ := int_inv hv; obtain ⟨u, rfl⟩ := int_inv hw
  exact lt_int ⟨rfl, Kp.rf s⟩
theorem CmpOk.ile (a b : Int) : CmpOk c .LtE (.int a) (.int b) (decide (a ≤ b)) := fun A s Z v w hA hB hv hw => by
  obtain ⟨t, rfl⟩ := int_inv hv; obtain ⟨u, rfl⟩ := int_inv hw
  exact le_int ⟨rfl, Kp.rf s⟩
theorem CmpOk.igt (a b : Int) : CmpOk c .Gt (.int a) (.int b) (decide (b < a)) := fun A s Z v w hA hB hv hw => by
  obtain ⟨t, rfl⟩ := int_inv hv; obtain ⟨u, rfl⟩ := int_inv hw
  exact gt_int ⟨rfl, Kp.rf s⟩
theorem CmpOk.ige (a b : Int) : CmpOk c .GtE (.int a) (.int b) (decide (b ≤ a)) := fun A s Z v w hA hB hv hw => by
  obtain ⟨t, rfl⟩ := int_inv hv; obtain ⟨u, rfl⟩ := int_inv hw
  exact ge_int ⟨rfl, Kp.rf s⟩
theorem CmpOk.ieq (a b : Int) : CmpOk c .Eq (.int a) (.int b) (a == b) := fun A s Z v w hA hB hv hw => by
  obtain ⟨t, rfl⟩ := int_inv hv; obtain ⟨u, rfl⟩ := int_inv hw
  exact eq_int ⟨rfl, Kp.rf s⟩
theorem CmpOk.ine (a b : Int) : CmpOk c .NotEq (.int a) (.int b) (a != b) := fun A s Z v w hA hB hv hw => by
  obtain ⟨t, rfl⟩ := int_inv hv; obtain ⟨u, rfl⟩ := int_inv hw
  exact ne_int ⟨rfl, Kp.rf s⟩
def V.isNone : V → Bool | .none => true | _ => false
theorem none_is {Z : FZ} {h : Heap} {v : Value} {x : V} (r : Rep c Z h v x) (hg : x ≠ .gone) : (v == Value.none) = x.isNone := by
  cases r with
  | imm r => cases r <;> rfl
  | gone => exact absurd rfl hg
  | _ => rfl
theorem CmpOk.is_none {x : V} (hg : x ≠ .gone) : CmpOk c .Is x .none x.isNone := fun A s Z v w hA hB hv hw => by
  obtain rfl := none_inv hw
  exact PySem.is_none ⟨by rw [none_is hv hg], Kp.rf s⟩
theorem CmpOk.isNot_none {x : V} (hg : x ≠ .gone) : CmpOk c .IsNot x .none (!x.isNone) := fun A s Z v w hA hB hv hw => by
  obtain rfl := none_inv hw
  exact PySem.isNot_none ⟨by rw [none_is hv hg], Kp.rf s⟩
theorem CmpOk.inBools {y : V} {bs : List Bool} (b : Bool) (hy : y.items = some (bs.map V.bool)) : CmpOk c .In (.bool b) y (bs.any (· == b)) := fun A s Z v w hA hB hv hw => by
  obtain ⟨a, vs, rfl, hl, al⟩ := hw.isList hB.zin hy
  obtain rfl := bool_inv hv
  have key : ∀ (vs : List Value) (bs : List Bool), AllR c Z vs (bs.map V.bool) → vs = bs.map Value.bool := by
    intro vs bs
    induction bs generalizing vs with
    | nil => intro h; cases h; rfl
    | cons b r ih => intro h; cases h with | cons h1 h2 => cases h1; rw [ih _ h2]; rfl
  obtain rfl := key _ _ al
  refine in_listAt (fun y => match y with | .bool b' => b' == b | _ => false) hl (fun y hy => ?_) ⟨?_, Kp.rf s⟩
  · simp only [List.mem_toArray, List.mem_map] at hy
    obtain ⟨b', _, rfl⟩ := hy
    exact EqAt.bool_bool b' b
  · simp [List.any_map, Function.comp_def]
theorem CmpOk.inInts {y : V} {ns : List Int} (n : Int) (hy : y.items = some (ns.map V.int)) : CmpOk c .In (.int n) y (ns.any (· == n)) := fun A s Z v w hA hB hv hw => by
  obtain ⟨a, vs, rfl, hl, al⟩ := hw.isList hB.zin hy
  obtain ⟨t, rfl⟩ := int_inv hv
  refine in_list_ints hl al.intsAre ⟨rfl, Kp.rf s⟩
theorem CmpOk.neInts {x y : V} {ns ms : List Int} (hx : x.items = some (ns.map V.int)) (hy : y.items = some (ms.map V.int)) : CmpOk c .NotEq x y (!(ns == ms)) := fun A s Z v w hA hB hv hw => by
  obtain ⟨a, vs, rfl, hl, al⟩ := hv.isList hB.zin hx
  obtain ⟨b, ws, rfl, hl', al'⟩ := hw.isList hB.zin hy
  exact (PySem.W.ke_ne_ints hl hl' al.intsAre al'.intsAre hA.units ⟨by rw [Bool.beq_eq_decide_eq], Kp.rf s⟩)
theorem CmpOk.neNil {x y : V} {l : List V} (hx : x.items = some l) (hy : y.items = some []) : CmpOk c .NotEq x y (!l.isEmpty) := fun A s Z v w hA hB hv hw => by
  obtain ⟨a, vs, rfl, hl, al⟩ := hv.isList hB.zin hx
  obtain ⟨b, ws, rfl, hl', al'⟩ := hw.isList hB.zin hy
  cases al'
  have hlen := al.length
  cases l with
  | nil =>
    cases al
    exact RcNeAt.lists (e := fun _ => true) hl hl' rfl (by have := hA.u8; omega) (fun j h1 h2 => by simp at h1) _ _ _ _ ⟨rfl, Kp.rf s⟩
  | cons x r =>
    cases al with
    | cons h1 h2 => exact RcNeAt.lists_lengths hl hl' (by simp) (by have := hA.u8; omega) _ _ _ _ ⟨rfl, Kp.rf s⟩
end
end Mine
end
section
open PySem PyProof.Rows
set_option maxRecDepth 10000
set_option linter.unusedVariables false
set_option linter.unusedSimpArgs false
namespace Mine

/-- an iterator: what it still has to give, by the number of what it gave -/
structure It (c : Cx) (A : Around) (Z : FZ) (xs : List V) (I : Addr) (st : Nat → Heap → Prop) : Prop where
  frame : ∀ i h h', st i h → ZIn Z h → ZIn Z h' → (∀ o, h.get? I = some o → h'.get? I = some o) → st i h'
  item : ∀ i (s : Shared) (x : V) (Q : Option Value → Shared → Prop) (E : Value → Shared → Prop), xs[i]? = some x → ZIn Z s.heap → st i s.heap →
    (∀ v h' tk, IRep c Z v x → st (i + 1) h' → (∀ b o, b ≠ I → s.heap.get? b = some o → h'.get? b = some o) → Q (some v) { s with heap := h', toks := tk }) → wpAny (model c.prog c.w) A (pyNext (.ref I)) Q E s
  done : ∀ (s : Shared) (Q : Option Value → Shared → Prop) (E : Value → Shared → Prop), ZIn Z s.heap → st xs.length s.heap →
    (∀ h' tk, (∀ b o, b ≠ I → s.heap.get? b = some o → h'.get? b = some o) → Q none { s with heap := h', toks := tk }) → wpAny (model c.prog c.w) A (pyNext (.ref I)) Q E s
  self : ∀ i (s : Shared) (Q : Value → Shared → Prop) (E : Value → Shared → Prop), st i s.heap → Q (.ref I) s → wpAny (model c.prog c.w) A (pyIter (.ref I)) Q E s
  there : ∀ i h, st i h → ∃ o, h.get? I = some o
  go : ∀ i (s : Shared) (target : Expr) (v : Value) (Q : Unit → Shared → Prop) (E : Value → Shared → Prop), st i s.heap → Q () s → wpAny (model c.prog c.w) A (letOwnedTupleGo target (.ref I) v) Q E s

def goFree (T : String) : Bool := !(["enumerate", "zip", "dict_itemiterator", "dict_reverseitemiterator", "odict_iterator", "itertools.zip_longest", "itertools.pairwise"].contains T)
theorem letGo_of {M : Model} {A : Around} {s : Shared} {I : Addr} {T : String} {target : Expr} {v : Value} {Q : Unit → Shared → Prop} {E : Value → Shared → Prop} {o : Obj} (ho : s.heap.get? I = some o) (hc : o.cls = .type T)
    (hT : goFree T = true) (h : Q () s) : wpAny M A (letOwnedTupleGo target (.ref I) v) Q E s := by
  have hT' : (["enumerate", "zip", "dict_itemiterator", "dict_reverseitemiterator", "odict_iterator", "itertools.zip_longest", "itertools.pairwise"].contains T) = false := by
    unfold goFree at hT; simpa using hT
  have main : wpAny M A (do
      let (.ref r, .ref a) := (Value.ref I, v) | return
      let o ← load r
      match o.cls, o.data with
      | .type n, .fields vs =>
        if ["enumerate", "zip", "dict_itemiterator", "dict_reverseitemiterator", "odict_iterator", "itertools.zip_longest", "itertools.pairwise"].contains n && vs[0]? == some (rawInt a) then
          rule "for.unpacks-the-owned-tuple"
          updateField r 0 .none
      | _, _ => pure ()) Q E s := by
    cases v with
    | ref a =>
      refine wpAny_bind (wpAny_load ho ?_)
      rw [hc]
      cases hd : o.data with
      | fields vs => simp only [hT', Bool.false_and, Bool.false_eq_true, if_false]; exact wpAny_pure h
      | _ => exact wpAny_pure h
    | _ => exact wpAny_pure h
  unfold letOwnedTupleGo
  cases target with
  | Tuple => exact main
  | List => exact main
  | _ => exact wpAny_pure h

theorem It.mono {c : Cx} {A : Around} {Z Z' : FZ} {xs : List V} {I : Addr} {st : Nat → Heap → Prop} (h : It c A Z xs I st) (le : FZ.Le Z Z') : It c A Z' xs I st where
  frame := fun i h1 h2 s z z' k => h.frame i h1 h2 s (fun a o e => z a o (le a o e)) (fun a o e => z' a o (le a o e)) k
  item := fun i s x Q E hx z hs hQ => h.item i s x Q E hx (fun a o e => z a o (le a o e)) hs fun v h' tk r => hQ v h' tk (r.mono le)
  done := fun s Q E z hs hQ => h.done s Q E (fun a o e => z a o (le a o e)) hs hQ
  self := h.self
  there := h.there
  go := h.go

theorem It.ofWalks {c : Cx} {A : Around} {Z : FZ} {xs : List V} {I : Addr} {fp : List Addr} {P : Nat → Value → Prop} {st : Nat → Heap → Prop} {T : String}
    (W : Walks c.prog c.w A I fp [I] xs.length P st) (hf : ∀ b ∈ fp, b = I ∨ ∃ o, Z b = some o) (hP : ∀ i v x, P i v → xs[i]? = some x → IRep c Z v x) (hT : goFree T = true)
    (hc : ∀ i h, st i h → ∃ o, h.get? I = some o ∧ o.cls = .type T) : It c A Z xs I st where
  frame := fun i h h' hs z z' k => W.frame i h h' hs fun b hb o e => by
    rcases hf b hb with rfl | ⟨o', e'⟩
    · exact k o e
    · have := z b o' e'; rw [e] at this; cases this; exact z' b o e'
  item := fun i s x Q E hx z hs hQ => W.item i s Q E (List.getElem?_eq_some_iff.mp hx).1 hs fun v h' tk hp hs' k => hQ v h' tk (hP i v x hp hx) hs' fun b o hb e => k b o (by simpa using hb) e
  done := fun s Q E z hs hQ => W.done s Q E hs fun h' tk k => hQ h' tk fun b o hb e => k b o (by simpa using hb) e
  self := W.self
  there := fun i h hs => let ⟨o, ho, _⟩ := hc i h hs; ⟨o, ho⟩
  go := fun i s target v Q E hs h => let ⟨o, ho, hc'⟩ := hc i _ hs; letGo_of ho hc' hT h

/-- iter(v) gives xs, one after the other -/
def Yields (c : Cx) (xs : List V) : Out := fun _ s Z' s' v => ∀ A, A.handled = none → ∀ (E : Value → Shared → Prop) (Q : Value → Shared → Prop),
  (∀ I st s'', Kp s' s'' → s.heap.get? I = none → Z' I = none → It c A Z' xs I st → st 0 s''.heap → Q (.ref I) s'') → wpAny (model c.prog c.w) A (pyIter v) Q E s'

theorem fresh_size {h : Heap} : h.get? h.objs.size = none := by
  cases e : h.get? h.objs.size with
  | none => rfl
  | some o => exact absurd (Heap.lt_size e) (Nat.lt_irrefl _)
theorem Z_fresh {Z : FZ} {h : Heap} (z : ZIn Z h) {a : Addr} (e : h.get? a = none) : Z a = none := by
  cases q : Z a with
  | none => rfl
  | some o => have := z a o q; rw [e] at this; cases this
theorem Kp.push (s : Shared) (o : Obj) : Kp s { s with heap := s.heap.push o } := ⟨_, s.toks, rfl, fun _ _ e => Heap.get?_push_of_some _ e⟩

section
variable {c : Cx} {k : Nat} {sc : Scope} {ρ : Rho}

theorem Ev.yields_fl {e : Expr} {l : List V} (h : Ev c k sc ρ e (Is c (.fl l))) : Ev c k sc ρ e (Yields c l) :=
  h.mono fun Z s Z' s' v z kp le r A hh E Q hQ => by
    cases r with
    | imm r =>
      cases r with
      | @fl a vs _ hs al =>
        have hl := hs.list z
        have hne : a ≠ s'.heap.objs.size := by obtain ⟨o, ho, _⟩ := hl; exact Nat.ne_of_lt (Heap.lt_size ho)
        refine wpAny_pyIter_list hl ?_
        refine hQ _ (fun i h => h.IsListIter s'.heap.objs.size a i ∧ h.IsList a vs.toArray) _ (Kp.push _ _) (kp.fresh fresh_size) (Z_fresh z fresh_size) ?_ ⟨⟨_, Heap.get?_push_size _ rfl, rfl, rfl⟩, hl.push _⟩
        have W := Walks.list (prog := c.prog) (w := c.w) hh s'.heap.objs.size a hne vs.toArray
        rw [show vs.toArray.size = l.length by rw [List.size_toArray]; exact al.length] at W
        refine It.ofWalks (T := "list_iterator") W (fun b hb => ?_) (fun i v x hp hx => ?_) (by decide) fun i h hs => ?_
        · simp at hb
          rcases hb with rfl | rfl
          · exact .inl rfl
          · obtain ⟨o, e, _⟩ := hs; exact .inr ⟨o, e⟩
        · obtain ⟨v', h1, h2⟩ := al.get i x hx
          have : v = v' := by simp only [List.getElem?_toArray] at hp; rw [h1] at hp; cases hp; rfl
          exact this ▸ h2
        · obtain ⟨⟨o, ho, hc, _⟩, _⟩ := hs; exact ⟨o, ho, hc⟩

def upto (lo hi : Int) : List V := (List.range (hi - lo).toNat).map fun i => V.int (lo + (i : Nat))

theorem rangeSize_one (lo hi : Int) : Builtin.Range.rangeSize lo hi 1 = ((hi - lo).toNat : Int) := by
  unfold Builtin.Range.rangeSize
  simp
  omega

theorem Ev.yields_rng {e : Expr} {lo hi : Int} (h : Ev c k sc ρ e (Is c (.rng lo hi))) (hsm : Builtin.Range.small lo hi 1 = true) : Ev c k sc ρ e (Yields c (upto lo hi)) :=
  h.mono fun Z s Z' s' v z kp le r A hh E Q hQ => by
    cases r with
    | imm r =>
      cases r with
      | @rng a _ _ o t1 t2 t3 ho hob =>
        subst hob
        refine wpAny_pyIter_range (z _ _ ho) hsm ?_
        refine hQ _ (fun i h => IsRangeIter h s'.heap.objs.size (lo + (i : Nat) * 1) ((((hi - lo).toNat : Nat) : Int) - (i : Nat)) 1) _ (Kp.push _ _) (kp.fresh fresh_size) (Z_fresh z fresh_size) ?_ ?_
        · have W := Walks.range (prog := c.prog) (w := c.w) hh s'.heap.objs.size lo 1 (hi - lo).toNat
          refine It.ofWalks (T := "range_iterator") (xs := upto lo hi) (by simpa [upto] using W) (fun b hb => .inl (by simpa using hb)) (fun i v x hp hx => ?_) (by decide) fun i h hs => ⟨_, hs, rfl⟩
          obtain ⟨t, rfl⟩ := hp
          have hi' : i < (hi - lo).toNat := by
            have := (List.getElem?_eq_some_iff.mp hx).1
            simpa [upto] using this
          have : x = .int (lo + i) := by
            simp [upto, hi'] at hx
            rw [← hx]
          subst this
          exact .int _ _
        · show (s'.heap.push _).get? _ = _
          rw [rangeSize_one]
          refine (Heap.get?_push_size _ rfl).trans ?_
          simp [rawInt]

theorem Ev.yields_fd {e : Expr} {ks : List Int} (h : Ev c k sc ρ e (Is c (.fd ks))) : Ev c k sc ρ e (Yields c (ks.map V.int)) :=
  h.mono fun Z s Z' s' v z kp le r A hh E Q hQ => by
    cases r with
    | imm r =>
      cases r with
      | @fd a _ hf hs =>
        obtain ⟨kvs, ep, o, hk, hz, hd⟩ := hf
        have hda := hd s'.heap (z a o hz)
        have hne : a ≠ s'.heap.objs.size := Nat.ne_of_lt (Heap.lt_size (z a o hz))
        refine wpAny_pyIter_dict hs hda ?_
        refine hQ _ (fun i h => h.IsKeyIter s'.heap.objs.size a i kvs.length ep ∧ h.DictAt (intKind c.prog c.w) a kvs ep) _ (Kp.push _ _) (kp.fresh fresh_size) (Z_fresh z fresh_size) ?_
          ⟨⟨_, Heap.get?_push_size _ rfl, rfl, rfl⟩, hda.keep fun b o e => Heap.get?_push_of_some _ e⟩
        have W := Walks.dictKeys (knd := intKind c.prog c.w) (A := A) hh s'.heap.objs.size a hne kvs ep
        have hlen : kvs.length = (ks.map V.int).length := by rw [← hk]; simp
        refine It.ofWalks (T := "dict_keyiterator") (by rw [← hlen]; exact W) (fun b hb => ?_) (fun i v x hp hx => ?_) (by decide) fun i h hs => ?_
        · simp at hb
          rcases hb with rfl | rfl
          · exact .inl rfl
          · exact .inr ⟨o, hz⟩
        · obtain ⟨kk, xx, h1, h2⟩ := hp
          have : x = .int kk := by
            rw [← hk] at hx
            simp [h1] at hx
            exact hx.symm
          subst this
          obtain ⟨t, rfl⟩ := Value.isInt_shape h2
          exact .int _ _
        · obtain ⟨⟨o, ho, hc, _⟩, _⟩ := hs; exact ⟨o, ho, hc⟩
end

/-- where the name x is kept -/
def Own1 (env : Env) (x : Str) (a : Addr) : Prop := a = env.locals ∨ (env.kindOf x = some .cell ∧ env.cells.lookup x = some a)
def Own (env : Env) (a : Addr) : Prop := a = env.locals ∨ ∃ x, env.kindOf x = some .cell ∧ env.cells.lookup x = some a
theorem Own1.own {env : Env} {x : Str} {a : Addr} (h : Own1 env x a) : Own env a := h.imp id fun h => ⟨x, h⟩

def Vars (c : Cx) (env : Env) (Z : FZ) (h : Heap) (ρ : Rho) : Prop := ∃ m, Fm env h m ∧ ∀ x V, ρ.lookup x = some V → V ≠ .gone → ∃ v, m x = some v ∧ Rep c Z h v V

structure Wr (F : Addr → Prop) (h h' : Heap) : Prop where
  keep : ∀ a o, ¬ F a → h.get? a = some o → h'.get? a = some o
  alive : ∀ a o, h.get? a = some o → ∃ o', h'.get? a = some o'
def Wk (F : Addr → Prop) (h h' : Heap) : Prop := ∀ a o, ¬ F a → h.get? a = some o → h'.get? a = some o
theorem Wk.refl (F : Addr → Prop) (h : Heap) : Wk F h h := fun _ _ _ e => e
theorem Wk.trans {F : Addr → Prop} {h h' h'' : Heap} (x : Wk F h h') (y : Wk F h' h'') : Wk F h h'' := fun a o n e => y a o n (x a o n e)
theorem Wk.mono {F G : Addr → Prop} {h h' : Heap} (x : Wk F h h') (i : ∀ a, F a → G a) : Wk G h h' := fun a o n e => x a o (fun f => n (i a f)) e
theorem Wr.refl (F : Addr → Prop) (h : Heap) : Wr F h h := ⟨fun _ _ _ e => e, fun _ o e => ⟨o, e⟩⟩
theorem Wr.mono {F G : Addr → Prop} {h h' : Heap} (x : Wr F h h') (i : ∀ a, F a → G a) : Wr G h h' := ⟨fun a o n e => x.keep a o (fun f => n (i a f)) e, x.alive⟩
theorem Wr.trans {F : Addr → Prop} {h h' h'' : Heap} (x : Wr F h h') (y : Wr F h' h'') : Wr F h h'' := ⟨fun a o n e => y.keep a o n (x.keep a o n e), fun a o e => let ⟨o', e'⟩ := x.alive a o e; y.alive a o' e'⟩

section
variable {c : Cx} {A : Around} {sc : Scope} {env : Env} {Z : FZ} {s : Shared} {ρ : Rho} {E : Value → Shared → Prop}

theorem store1 {x : Str} {v : Value} {V : V} {Q : Unit → Shared → Prop} {M : Model} (hE : EnvOk sc env) (hk : sc.names.lookup x = some .local ∨ sc.names.lookup x = some .cell) (vr : Vars c env Z s.heap ρ) (hv : Rep c Z s.heap v V) (z : ZIn Z s.heap)
    (ho : ∀ a, Own1 env x a → Z a = none) (hf : ∀ y W, ρ.lookup y = some W → ∀ a, Own1 env x a → a ∉ foot W) (hfV : ∀ a, Own1 env x a → a ∉ foot V)
    (hQ : ∀ h' tk, Vars c env Z h' ((x, V) :: ρ) → Wr (Own1 env x) s.heap h' → ZIn Z h' → Q () { s with heap := h', toks := tk }) : wpAny M A (storeName env x v) Q E s := by
  obtain ⟨m, F, hm⟩ := vr
  have hkind : env.scope.kind = .function := hE.scope ▸ hE.kind
  have hko : env.kindOf x = sc.names.lookup x := by unfold Env.kindOf; rw [hE.scope]
  -- what is left when one own address is written
  have fin : ∀ (a : Addr) (h' : Heap) (tk : Nat), Own1 env x a → Heap.SameBut a s.heap h' → (∃ o, h'.get? a = some o) → Fm env h' (fun y => if y = x then some v else m y) → Q () { s with heap := h', toks := tk } := by
    intro a h' tk oa sb al F'
    have keep : ∀ b o, ¬ Own1 env x b → s.heap.get? b = some o → h'.get? b = some o := fun b o nb e => (sb.2 b (fun q => nb (q ▸ oa))).trans e
    have z' : ZIn Z h' := fun b o e => keep b o (fun ob => by rw [ho b ob] at e; cases e) (z b o e)
    refine hQ h' tk ⟨_, F', fun y W hy hg => ?_⟩ ⟨keep, fun b o e => ?_⟩ z'
    · rw [List.lookup_cons] at hy
      by_cases hyx : y = x
      · subst hyx
        simp only [beq_self_eq_true] at hy
        cases hy
        exact ⟨v, by simp, hv.go (FZ.Le.refl Z) (fun b hb o e => keep b o (fun ob => hfV b ob hb) e) hv.footZ⟩
      · have : (y == x) = false := by simpa using hyx
        simp only [this] at hy
        obtain ⟨w, h1, h2⟩ := hm y W hy hg
        exact ⟨w, by simp [hyx, h1], h2.go (FZ.Le.refl Z) (fun b hb o e => keep b o (fun ob => hf y W hy b ob hb) e) h2.footZ⟩
    · by_cases hb : b = a
      · subst hb; exact al
      · exact ⟨o, (sb.2 b hb).trans e⟩
  rcases hk with hk | hk
  · obtain ⟨m0, n, e⟩ := F.ns
    refine wpAny_storeName_local (hko.trans hk) n (fun h' hn hs => fin env.locals h' _ (.inl rfl) hs (let ⟨o, _, _, q, _⟩ := hn; ⟨o, q⟩) ⟨⟨_, hn, fun y hy => ?_⟩, fun y hy => ?_⟩) (by rw [hkind]; rfl)
    · show (if y = x then some v else m0 y) = if y = x then some v else m y
      by_cases hyx : y = x
      · simp [hyx]
      · simp only [hyx, if_false]; exact e y hy
    · obtain ⟨a, h1, h2⟩ := F.cell y hy
      have hyx : y ≠ x := by rintro rfl; rw [hko, hk] at hy; rcases hy with hy | hy <;> cases hy
      exact ⟨a, h1, by simp only [hyx, if_false]; exact h2.sameBut hs (hE.apartL y a h1)⟩
  · obtain ⟨a, h1, h2⟩ := F.cell x (.inl (hko.trans hk))
    refine wpAny_storeName_cell hkind (hko.trans hk) h1 h2 (fun h' hn hs => fin a h' _ (.inr ⟨hko.trans hk, h1⟩) hs (let ⟨o, q, _⟩ := hn; ⟨o, q⟩) ⟨?_, fun y hy => ?_⟩)
    · obtain ⟨m0, n, e⟩ := F.ns
      refine ⟨m0, n.sameBut hs (fun q => hE.apartL x a h1 q.symm), fun y hy => ?_⟩
      have hyx : y ≠ x := by rintro rfl; rw [hko, hk] at hy; cases hy
      simp only [hyx, if_false]; exact e y hy
    · by_cases hyx : y = x
      · subst hyx
        exact ⟨a, h1, by simpa using hn⟩
      · obtain ⟨b, h3, h4⟩ := F.cell y hy
        refine ⟨b, h3, ?_⟩
        simp only [hyx, if_false]
        exact h4.sameBut hs (fun q => hyx (hE.apart y x a (q ▸ h3) h1))
end
end Mine
end
section
open PySem PyProof.Rows
set_option maxRecDepth 10000
set_option linter.unusedVariables false
set_option linter.unusedSimpArgs false
namespace Mine

def bindT : Expr → V → Option Rho
  | .Name x _, v => some [(x, v)]
  | .Tuple [.Name x _, .Name y _] _ _, .pair a b => some [(y, .int b), (x, .int a)]
  | _, _ => none
def tgtNames : Expr → List Str
  | .Name x _ => [x]
  | .Tuple [.Name x _, .Name y _] _ _ => [x, y]
  | _ => []
def Storable (sc : Scope) (x : Str) : Prop := sc.names.lookup x = some .local ∨ sc.names.lookup x = some .cell

def OwnT (env : Env) (t : Expr) (a : Addr) : Prop := ∃ x ∈ tgtNames t, Own1 env x a
theorem Wr.ofKp {F : Addr → Prop} {s s' : Shared} (k : Kp s s') : Wr F s.heap s'.heap := ⟨fun a o _ e => k.get a o e, fun a o e => ⟨o, k.get a o e⟩⟩
theorem Vars.kp {c : Cx} {env : Env} {Z : FZ} {s s' : Shared} {ρ : Rho} (v : Vars c env Z s.heap ρ) (k : Kp s s') : Vars c env Z s'.heap ρ := by
  obtain ⟨m, F, h⟩ := v
  exact ⟨m, F.keeps k.get, fun x V hx hg => let ⟨w, e, r⟩ := h x V hx hg; ⟨w, e, r.go (FZ.Le.refl _) (fun a _ o e => k.get a o e) r.footZ⟩⟩
theorem Vars.up {c : Cx} {env : Env} {Z Z' : FZ} {s s' : Shared} {ρ : Rho} (v : Vars c env Z s.heap ρ) (u : Up Z s Z' s') : Vars c env Z' s'.heap ρ := by
  obtain ⟨m, F, h⟩ := v
  exact ⟨m, F.keeps u.keeps.get, fun x V hx hg => let ⟨w, e, r⟩ := h x V hx hg; ⟨w, e, r.up u⟩⟩
theorem Vars.wr {c : Cx} {env : Env} {Z : FZ} {h h' : Heap} {ρ : Rho} {F : Addr → Prop} (v : Vars c env Z h ρ) (w : Wk F h h') (ho : ∀ a, Own env a → ¬ F a) (hc : ∀ x a, env.cells.lookup x = some a → ¬ F a) (hf : ∀ y W, ρ.lookup y = some W → ∀ a ∈ foot W, ¬ F a) : Vars c env Z h' ρ := by
  obtain ⟨m, Fm, hm⟩ := v
  refine ⟨m, ⟨?_, fun x hx => ?_⟩, fun x V hx hg => let ⟨u, e, r⟩ := hm x V hx hg; ⟨u, e, r.go (FZ.Le.refl _) (fun a ha o e => w a o (hf x V hx a ha) e) r.footZ⟩⟩
  · obtain ⟨m0, ⟨o, es, ep, n, r⟩, e⟩ := Fm.ns
    exact ⟨m0, ⟨o, es, ep, w _ o (ho _ (.inl rfl)) n, r⟩, e⟩
  · obtain ⟨a, h1, o, h2, h3⟩ := Fm.cell x hx
    exact ⟨a, h1, o, w a o (hc x a h1) h2, h3⟩
theorem Vars.drop {c : Cx} {env : Env} {Z : FZ} {h : Heap} {ρ ρ' : Rho} (v : Vars c env Z h ρ) (hs : ∀ x V, ρ'.lookup x = some V → V ≠ .gone → ρ.lookup x = some V) : Vars c env Z h ρ' := by
  obtain ⟨m, F, hm⟩ := v
  exact ⟨m, F, fun x V hx hg => hm x V (hs x V hx hg) hg⟩

section
variable {c : Cx} {A : Around} {sc : Scope} {env : Env} {Z : FZ} {s : Shared} {ρ : Rho} {E : Value → Shared → Prop}

theorem imm_foot {h : Heap} {v : Value} {V : V} (r : IRep c Z v V) : foot V = [] := by cases r <;> rfl

theorem assign1 {x : Str} {pos : Pos} {v : Value} {V : V} {Q : Unit → Shared → Prop} (hE : EnvOk sc env) (hk : Storable sc x) (vr : Vars c env Z s.heap ρ) (hv : Rep c Z s.heap v V) (z : ZIn Z s.heap)
    (ho : ∀ a, Own1 env x a → Z a = none) (hf : ∀ y W, ρ.lookup y = some W → ∀ a, Own1 env x a → a ∉ foot W) (hfV : ∀ a, Own1 env x a → a ∉ foot V)
    (hQ : ∀ h' tk, Vars c env Z h' ((x, V) :: ρ) → Wr (Own1 env x) s.heap h' → ZIn Z h' → Q () { s with heap := h', toks := tk }) : wpAny (model c.prog c.w) A (assign (.Name x pos) env v) Q E s :=
  wpAny_assign_Name (store1 hE hk vr hv z ho hf hfV hQ)

theorem assignT {t : Expr} {v : Value} {V : V} {bs : Rho} {Q : Unit → Shared → Prop} (hE : EnvOk sc env) (hh : A.handled = none) (hb : bindT t V = some bs) (hk : ∀ x ∈ tgtNames t, Storable sc x) (vr : Vars c env Z s.heap ρ)
    (hv : IRep c Z v V) (z : ZIn Z s.heap) (ho : ∀ a, OwnT env t a → Z a = none) (hf : ∀ y W, ρ.lookup y = some W → ∀ a, OwnT env t a → a ∉ foot W)
    (hQ : ∀ h' tk, Vars c env Z h' (bs ++ ρ) → Wr (OwnT env t) s.heap h' → ZIn Z h' → Q () { s with heap := h', toks := tk }) : wpAny (model c.prog c.w) A (assign t env v) Q E s := by
  unfold bindT at hb
  split at hb
  · cases hb
    rename_i _ _ x pos
    have i : ∀ a, Own1 env x a → OwnT env (.Name x pos) a := fun a h => ⟨x, by simp [tgtNames], h⟩
    exact assign1 hE (hk _ (by simp [tgtNames])) vr (.imm hv) z (fun a h => ho a (i a h)) (fun y W hy a h => hf y W hy a (i a h)) (fun a _ => by rw [imm_foot (h := s.heap) hv]; simp) fun h' tk v' w' z' => hQ h' tk v' (w'.mono i) z'
  · cases hb
    rename_i x px y py kk pp a b
    have ix : ∀ a, Own1 env x a → OwnT env (.Tuple [.Name x px, .Name y py] kk pp) a := fun a h => ⟨x, by simp [tgtNames], h⟩
    have iy : ∀ a, Own1 env y a → OwnT env (.Tuple [.Name x px, .Name y py] kk pp) a := fun a h => ⟨y, by simp [tgtNames], h⟩
    cases hv with
    | @pair T _ _ ta tb hs =>
      have ht : IsTup s.heap T #[.int a ta, .int b tb] := hs.tuple z
      refine assign_Tuple_tuple hh ht rfl rfl fun h' he => ?_
      have kp : Kp s { s with heap := h' } := ⟨h', s.toks, rfl, fun a o e => he a o (Nat.ne_of_lt (Heap.lt_size e)) e⟩
      have z' : ZIn Z h' := fun a o e => kp.get a o (z a o e)
      show wpAny _ _ (do holding [Value.int b tb] (assign (.Name x px) env (.int a ta)); assignInOrder [assign (.Name y py) env] [.int b tb]) _ _ _
      refine wpAny_bind (wpAny_holding (assign1 hE (hk _ (by simp [tgtNames])) (vr.kp kp) (.imm (.int a ta)) z' (fun a h => ho a (ix a h)) (fun y W hy a h => hf y W hy a (ix a h)) (fun a _ => by simp [foot]) fun h1 tk1 v1 w1 z1 => ?_))
      show wpAny _ _ (do holding [] (assign (.Name y py) env (.int b tb)); assignInOrder [] []) _ _ _
      refine wpAny_bind (wpAny_holding (assign1 (s := { s with heap := h1, toks := tk1 }) hE (hk _ (by simp [tgtNames])) v1 (.imm (.int b tb)) z1 (fun a h => ho a (iy a h)) (fun yy W hy a oa => ?_) (fun a _ => by simp [foot]) fun h2 tk2 v2 w2 z2 => ?_))
      · rw [List.lookup_cons] at hy
        split at hy
        · cases hy; simp [foot]
        · exact hf yy W hy a (iy a oa)
      · exact wpAny_pure (hQ h2 tk2 v2 (((Wr.ofKp kp).trans (w1.mono ix)).trans (w2.mono iy)) z2)
  · cases hb
end
end Mine
end
section
open PySem PyProof.Rows
set_option maxRecDepth 10000
set_option linter.unusedVariables false
set_option linter.unusedSimpArgs false
namespace Mine

abbrev NoE : Value → Shared → Prop := fun _ _ => False
def testsOf (ifs : List Expr) (env : Env) : Sem Bool :=
  forIn ifs true fun c r => if r = true then do let ok ← isTrue c env (eval c env); pure (ForInStep.yield ok) else pure (ForInStep.yield r)

theorem comp_loopG {prog : Program} {w : World} {A : Around} {R : Result → Shared → Prop} {s : Shared} {e : Expr} {depth : Nat} {target : Expr} {ifs : List Expr} {it acc : Value} {cenv : Env} {body : Sem PySem.Fin} {ip : Pos}
    (heq : compTurn e depth it acc cenv = (do
      standAt ip
      match ← pyNext it with
      | none => pure (.done .next)
      | some v =>
        letOwnedTupleGo target it v
        assign target cenv v
        let ok ← testsOf ifs cenv
        if ok then body else again (.compLoop e depth it acc cenv)))
    (hfr : (Code.compLoop e depth it acc cenv).isFrame = false) (hq : (Code.compLoop e depth it acc cenv).quiet = true)
    (hun : A.under (Code.compLoop e depth it acc cenv) = A)
    (Inv : Nat → Shared → Prop)
    (turn : ∀ n s, Inv n s → wpAny (model prog w) A (pyNext it) (fun r s₁ => match r with
      | none => R (.ok .next) s₁
      | some v => wpAny (model prog w) A (letOwnedTupleGo target it v) (fun _ s₂ => wpAny (model prog w) A (assign target cenv v) (fun _ s₃ =>
          wpAny (model prog w) A (testsOf ifs cenv) (fun ok s₄ => if ok then wpAny (model prog w) A body (fun fin s₅ => fin = .again (.compLoop e depth it acc cenv) ∧ ∃ m, m < n ∧ Inv m s₅) NoE s₄ else ∃ m, m < n ∧ Inv m s₄) NoE s₃) NoE s₂) NoE s₁) NoE s)
    (n : Nat) (h : Inv n s) : codeAny (model prog w) A (.compLoop e depth it acc cenv) R s := by
  refine codeAny_loop hq Inv (fun n s hI => ?_) n h
  rw [hun]
  show wpAny _ A (if (Code.compLoop e depth it acc cenv).isFrame then (compTurn e depth it acc cenv).onRaise (leaving cenv) else (compTurn e depth it acc cenv).onRaise (fun x => do noteFrame x cenv; theTreesLotGoes x)) _ _ s
  rw [hfr]
  simp only [Bool.false_eq_true, if_false]
  refine wpAny_onRaise ?_
  rw [heq]
  refine wpAny_bind (wpAny_standAt (wpAny_bind (wpAny_mono (turn n s hI) (fun r s₁ h₁ => ?_) fun _ _ x => x.elim)))
  cases r with
  | none => exact wpAny_pure h₁
  | some v =>
    refine wpAny_bind (wpAny_mono h₁ (fun _ s₂ h₂ => wpAny_bind (wpAny_mono h₂ (fun _ s₃ h₃ => wpAny_bind (wpAny_mono h₃ (fun ok s₄ h₄ => ?_) fun _ _ x => x.elim)) fun _ _ x => x.elim)) fun _ _ x => x.elim)
    cases ok with
    | false =>
      simp only [Bool.false_eq_true, if_false] at h₄ ⊢
      exact wpAny_pure ⟨rfl, h₄⟩
    | true =>
      simp only [if_true] at h₄ ⊢
      exact wpAny_mono h₄ (fun fin s₅ ⟨h₅, h₆⟩ => by subst h₅; exact ⟨rfl, h₆⟩) fun _ _ x => x.elim

theorem turn1 (elt target iter : Expr) (ifs : List Expr) (scope : Scope) (pos : Pos) (it acc : Value) (env : Env) :
    compTurn (.ListComp elt [⟨target, iter, ifs, 0⟩] scope pos) 0 it acc env = (do
      standAt iter.pos
      match ← pyNext it with
      | none => pure (.done .next)
      | some v =>
        letOwnedTupleGo target it v
        assign target env v
        let ok ← testsOf ifs env
        if ok then (do
          (do let _ ← call (.builtin "list.append") [acc, ← eval elt env] : Sem Unit)
          again (.compLoop (.ListComp elt [⟨target, iter, ifs, 0⟩] scope pos) 0 it acc env)) else again (.compLoop (.ListComp elt [⟨target, iter, ifs, 0⟩] scope pos) 0 it acc env)) := by rfl
theorem turn20 (elt t0 i0 t1 i1 : Expr) (f0 f1 : List Expr) (scope : Scope) (pos : Pos) (it acc : Value) (env : Env) :
    compTurn (.ListComp elt [⟨t0, i0, f0, 0⟩, ⟨t1, i1, f1, 0⟩] scope pos) 0 it acc env = (do
      standAt i0.pos
      match ← pyNext it with
      | none => pure (.done .next)
      | some v =>
        letOwnedTupleGo t0 it v
        assign t0 env v
        let ok ← testsOf f0 env
        if ok then (do
          let x ← eval i1 env
          standAt i1.pos
          let x ← foldedSetIterable i1 env x
          let _ ← runOwn (.compStart (.ListComp elt [⟨t0, i0, f0, 0⟩, ⟨t1, i1, f1, 0⟩] scope pos) 1 (← holding [x] (pyIter x)) acc env) env
          again (.compLoop (.ListComp elt [⟨t0, i0, f0, 0⟩, ⟨t1, i1, f1, 0⟩] scope pos) 0 it acc env)) else again (.compLoop (.ListComp elt [⟨t0, i0, f0, 0⟩, ⟨t1, i1, f1, 0⟩] scope pos) 0 it acc env)) := by rfl
theorem turn21 (elt t0 i0 t1 i1 : Expr) (f0 f1 : List Expr) (scope : Scope) (pos : Pos) (it acc : Value) (env : Env) :
    compTurn (.ListComp elt [⟨t0, i0, f0, 0⟩, ⟨t1, i1, f1, 0⟩] scope pos) 1 it acc env = (do
      standAt i1.pos
      match ← pyNext it with
      | none => pure (.done .next)
      | some v =>
        letOwnedTupleGo t1 it v
        assign t1 env v
        let ok ← testsOf f1 env
        if ok then (do
          (do let _ ← call (.builtin "list.append") [acc, ← eval elt env] : Sem Unit)
          again (.compLoop (.ListComp elt [⟨t0, i0, f0, 0⟩, ⟨t1, i1, f1, 0⟩] scope pos) 1 it acc env)) else again (.compLoop (.ListComp elt [⟨t0, i0, f0, 0⟩, ⟨t1, i1, f1, 0⟩] scope pos) 1 it acc env)) := by rfl

/-- all tests of a clause -/
def Tsts (c : Cx) (k : Nat) (sc : Scope) (ρ : Rho) (ifs : List Expr) (b : Bool) : Prop :=
  ∀ env A s Z, EnvOk sc env → Room k A → Rd c env Z s ρ → wpAny (model c.prog c.w) A (testsOf ifs env) (fun r s' => r = b ∧ Kp s s') NoE s
theorem Tsts.nil {c : Cx} {k : Nat} {sc : Scope} {ρ : Rho} : Tsts c k sc ρ [] true := fun env A s Z _ _ _ => wpAny_pure ⟨rfl, Kp.rf s⟩
theorem Tsts.one {c : Cx} {k : Nat} {sc : Scope} {ρ : Rho} {e : Expr} {b : Bool} (h : Tst c k sc ρ e b) : Tsts c k sc ρ [e] b := fun env A s Z hE hA hr => by
  unfold testsOf
  exact wpAny_tests_one (h env A s Z hE hA hr)

/-- what is there is not frozen later -/
def NewF (Z : FZ) (s : Shared) (Z' : FZ) : Prop := ∀ a o, s.heap.get? a = some o → Z a = none → Z' a = none

section
variable {β : Type}
structure CS (c : Cx) (cenv : Env) (Z0 : FZ) (s0 : Shared) (W : Addr → Prop) (D : Addr) (J : List β → List Value → FZ → Heap → Prop) (ρ : Rho) (outs : List β) (Z : FZ) (s : Shared) : Prop where
  base : Base c Z s
  up : Up Z0 s0 Z s
  wZ : ∀ a, W a → Z a = none
  wI : ∀ a, W a → ∃ o, s.heap.get? a = some o
  acc : ∃ vs, s.heap.PlainList D vs.toArray ∧ vs.length = outs.length ∧ J outs vs Z s.heap
  vars : Vars c cenv Z s.heap ρ
  off : ∀ y V, ρ.lookup y = some V → ∀ a ∈ foot V, ¬ W a

/-- stable: what grows, and what is written in W -/
def JSt (W : Addr → Prop) (J : List β → List Value → FZ → Heap → Prop) : Prop := ∀ outs vs Z h Z' h', J outs vs Z h → FZ.Le Z Z' → (∀ a o, Z' a = some o → Z a = none → h.get? a = none) → Wk W h h' → J outs vs Z' h'

/-- an element's way into the list -/
def El (c : Cx) (k : Nat) (sc : Scope) (W : Addr → Prop) (J : List β → List Value → FZ → Heap → Prop) (ρ : Rho) (e : Expr) (b : β) : Prop :=
  ∀ env A s Z outs vs, EnvOk sc env → Room k A → Rd c env Z s ρ → (∀ a, W a → ∃ o, s.heap.get? a = some o) → J outs vs Z s.heap →
    wpAny (model c.prog c.w) A (eval e env) (fun v s' => ∃ Z', Up Z s Z' s' ∧ J (outs ++ [b]) (vs ++ [v]) Z' s'.heap) NoE s

variable {c : Cx} {k : Nat} {A : Around} {sc : Scope} {cenv : Env} {Z0 : FZ} {s0 : Shared} {W : Addr → Prop} {D I : Addr} {J : List β → List Value → FZ → Heap → Prop} {ρ : Rho} {xs : List V} {st : Nat → Heap → Prop}

theorem Up.wr {Z0 Z : FZ} {s0 s : Shared} {W : Addr → Prop} {h' : Heap} {tk : Nat} (u : Up Z0 s0 Z s) (w : Wk W s.heap h') (hW : ∀ a, W a → s0.heap.get? a = none) (z : ZIn Z h') : Up Z0 s0 Z { s with heap := h', toks := tk } := by
  refine ⟨?_, u.le, z, u.new⟩
  obtain ⟨h, t, rfl, e⟩ := u.keeps
  exact ⟨h', tk, rfl, fun a o q => w a o (fun wa => by rw [hW a wa] at q; cases q) (e a o q)⟩

theorem CS.wr {outs : List β} {Z : FZ} {s : Shared} {F : Addr → Prop} {h' : Heap} {tk : Nat} {ρ' : Rho} (x : CS c cenv Z0 s0 W D J ρ outs Z s) (hW : ∀ a, F a → s0.heap.get? a = none) (hJ : JSt F J) (w : Wk F s.heap h')
    (hI : ∀ a, W a → F a → ∃ o, h'.get? a = some o) (hD : ¬ F D) (z : ZIn Z h') (v : Vars c cenv Z h' ρ')
    (off' : ∀ y V, ρ'.lookup y = some V → ∀ a ∈ foot V, ¬ W a) : CS c cenv Z0 s0 W D J ρ' outs Z { s with heap := h', toks := tk } where
  base := ⟨z, x.base.base, x.base.gens, x.base.os, x.base.drawn⟩
  up := x.up.wr w hW z
  wZ := x.wZ
  wI := fun a ha => by
    by_cases fa : F a
    · exact hI a ha fa
    · obtain ⟨o, e⟩ := x.wI a ha; exact ⟨o, w a o fa e⟩
  acc := by
    obtain ⟨vs, hp, hl, hj⟩ := x.acc
    exact ⟨vs, hp.at fun o e => w D o hD e, hl, hJ _ _ _ _ _ _ hj (FZ.Le.refl _) (fun a o e f => by rw [e] at f; cases f) w⟩
  vars := v
  off := off'

theorem CS.rd {outs : List β} {Z : FZ} {s : Shared} (x : CS c cenv Z0 s0 W D J ρ outs Z s) : Rd c cenv Z s ρ := { toBase := x.base, fm := x.vars }

theorem CS.kp {outs : List β} {Z : FZ} {s s' : Shared} (x : CS c cenv Z0 s0 W D J ρ outs Z s) (hJ : JSt W J) (k : Kp s s') : CS c cenv Z0 s0 W D J ρ outs Z s' := by
  have u : Up Z s Z s' := Up.same x.base.zin k
  refine ⟨x.base.up u, x.up.trans u, x.wZ, fun a ha => let ⟨o, e⟩ := x.wI a ha; ⟨o, k.get a o e⟩, ?_, x.vars.kp k, x.off⟩
  obtain ⟨vs, hp, hl, hj⟩ := x.acc
  exact ⟨vs, hp.at fun o e => k.get D o e, hl, hJ _ _ _ _ _ _ hj (FZ.Le.refl _) (fun a o e f => by rw [e] at f; cases f) (Wr.ofKp k).keep⟩

theorem CS.up' {outs : List β} {Z Z' : FZ} {s s' : Shared} (x : CS c cenv Z0 s0 W D J ρ outs Z s) (hJ : JSt W J) (u : Up Z s Z' s') : CS c cenv Z0 s0 W D J ρ outs Z' s' := by
  refine ⟨x.base.up u, x.up.trans u, fun a ha => ?_, fun a ha => let ⟨o, e⟩ := x.wI a ha; ⟨o, u.keeps.get a o e⟩, ?_, x.vars.up u, x.off⟩
  · cases e : Z' a with
    | none => rfl
    | some o => obtain ⟨o', e'⟩ := x.wI a ha; rw [u.new a o e (x.wZ a ha)] at e'; cases e'
  · obtain ⟨vs, hp, hl, hj⟩ := x.acc
    exact ⟨vs, hp.at fun o e => u.keeps.get D o e, hl, hJ _ _ _ _ _ _ hj u.le u.new (Wr.ofKp u.keeps).keep⟩

/-- one element put behind -/
theorem CS.append {outs : List β} {Z : FZ} {s : Shared} {elt : Expr} {b : β} {Q : Unit → Shared → Prop} (x : CS c cenv Z0 s0 W D J ρ outs Z s) (hW : ∀ a, W a → s0.heap.get? a = none) (hJ : JSt W J) (hWD : W D) (hDo : ∀ a, Own cenv a → a ≠ D) (hDc : ∀ x a, cenv.cells.lookup x = some a → a ≠ D)
    (hE : EnvOk sc cenv) (hA : Room k A) {U : Addr → Prop} (hel : El c k sc U J ρ elt b) (hU : ∀ a, U a → ∃ o, s.heap.get? a = some o) (hlen : outs.length ≤ 2 ^ 20)
    (hQ : ∀ Z' s', CS c cenv Z0 s0 W D J ρ (outs ++ [b]) Z' s' → FZ.Le Z Z' → Wk (fun a => a = D) s.heap s'.heap → NewF Z s Z' → Q () s') :
    wpAny (model c.prog c.w) A (do let _ ← call (.builtin "list.append") [.ref D, ← eval elt cenv]) Q NoE s := by
  obtain ⟨vs, hp, hl, hj⟩ := x.acc
  refine wpAny_bind (wpAny_mono (hel cenv A s Z outs vs hE hA x.rd hU hj) (fun v s' ⟨Z', u, hj'⟩ => ?_) fun _ _ x => x)
  have x' := x.up' hJ u
  have hp' : s'.heap.PlainList D vs.toArray := hp.at fun o e => u.keeps.get D o e
  refine wpAny_bind (wpAny_list_append_plain (hsz := by rw [List.size_toArray, hl]; unfold sizeLine; omega) hp' fun h' hp'' sb => wpAny_pure ?_)
  have w : Wr (fun a => a = D) s'.heap h' := ⟨fun a o n e => (sb.2 a n).trans e, fun a o e => by
    by_cases ha : a = D
    · subst ha; obtain ⟨n, q⟩ := hp''; exact ⟨_, q⟩
    · exact ⟨o, (sb.2 a ha).trans e⟩⟩
  have z' : ZIn Z' h' := fun a o e => w.keep a o (fun ha => by subst ha; rw [x'.wZ a hWD] at e; cases e) (x'.base.zin a o e)
  have wW : Wr W s'.heap h' := w.mono fun a ha => ha ▸ hWD
  refine hQ Z' { s' with heap := h' } ⟨⟨z', x'.base.base, x'.base.gens, x'.base.os, x'.base.drawn⟩, ?_, x'.wZ, fun a ha => let ⟨o, e⟩ := x'.wI a ha; w.alive a o e, ⟨vs ++ [v], by simpa using hp'', by simp [hl], hJ _ _ _ _ _ _ hj' (FZ.Le.refl _) (fun a o e f => by rw [e] at f; cases f) wW.keep⟩,
    x'.vars.wr w.keep (fun a oa => hDo a oa) (fun x a e => hDc x a e) (fun y V hy a ha q => x'.off y V hy a ha (q ▸ hWD)), x'.off⟩ u.le ((Wr.ofKp u.keeps).trans w).keep fun a o e f => by
    cases q : Z' a with
    | none => rfl
    | some o' => rw [u.new a o' q f] at e; cases e
  exact x'.up.wr (tk := s'.toks) wW.keep hW z'
end
end Mine
end
section
open PySem PyProof.Rows
set_option maxRecDepth 10000
set_option linter.unusedVariables false
set_option linter.unusedSimpArgs false
namespace Mine

theorem lookup_append {α : Type} {y : Str} : ∀ {l r : List (Str × α)}, (l ++ r).lookup y = (match l.lookup y with | some v => some v | none => r.lookup y)
  | [], r => rfl
  | (n, v) :: l, r => by
    rw [List.cons_append, List.lookup_cons, List.lookup_cons]
    cases y == n with
    | true => rfl
    | false => exact lookup_append

theorem bindT_imm {t : Expr} {x : V} {bs : Rho} (h : bindT t x = some bs) (hx : foot x = []) : ∀ y V, bs.lookup y = some V → foot V = [] := by
  unfold bindT at h
  split at h
  · cases h; intro y V hy
    rw [List.lookup_cons] at hy
    split at hy
    · cases hy; exact hx
    · cases hy
  · cases h; intro y V hy
    rw [List.lookup_cons, List.lookup_cons] at hy
    split at hy
    · cases hy; rfl
    · split at hy
      · cases hy; rfl
      · cases hy
  · cases h

section
variable {β : Type} {c : Cx} {k : Nat} {A : Around} {sc : Scope} {cenv : Env} {Z0 : FZ} {s0 : Shared} {W : Addr → Prop} {D I : Addr} {J : List β → List Value → FZ → Heap → Prop} {ρ : Rho} {xs : List V} {st : Nat → Heap → Prop}

theorem comp_loopS {R : Result → Shared → Prop} {s : Shared} {Z Zi : FZ} {outs : List β} {e : Expr} {depth : Nat} {target : Expr} {ifs : List Expr} {acc : Value} {body : Sem PySem.Fin} {ip : Pos}
    (heq : compTurn e depth (.ref I) acc cenv = (do
      standAt ip
      match ← pyNext (.ref I) with
      | none => pure (.done .next)
      | some v =>
        letOwnedTupleGo target (.ref I) v
        assign target cenv v
        let ok ← testsOf ifs cenv
        if ok then body else again (.compLoop e depth (.ref I) acc cenv)))
    (hfr : (Code.compLoop e depth (.ref I) acc cenv).isFrame = false) (hq : (Code.compLoop e depth (.ref I) acc cenv).quiet = true)
    (hun : A.under (Code.compLoop e depth (.ref I) acc cenv) = A)
    (hE : EnvOk sc cenv) (hA : Room k A) (it : It c A Zi xs I st) (hZi : FZ.Le Zi Z) (hW : ∀ a, W a → s0.heap.get? a = none) (hI0 : s0.heap.get? I = none) (hJ : JSt W J) (hJI : JSt (fun a => a = I) J) (hWI : ¬ W I) (hID : I ≠ D) (hZI : Z I = none)
    (hT : ∀ a, OwnT cenv target a → W a ∧ a ≠ D) (hIo : ∀ a, Own cenv a → a ≠ I) (hIc : ∀ x a, cenv.cells.lookup x = some a → a ≠ I) (hk : ∀ x ∈ tgtNames target, Storable sc x) (hIf : ∀ y V, ρ.lookup y = some V → I ∉ foot V)
    (f : V → Bool) (G : V → List β)
    (hb : ∀ x ∈ xs, foot x = [] ∧ ∃ bs, bindT target x = some bs ∧ (∀ y V, ρ.lookup y = some V → bs.lookup y = none) ∧ Tsts c k sc (bs ++ ρ) ifs (f x) ∧
      (f x = true → ∀ outs' Z1 s1, CS c cenv Z0 s0 W D J (bs ++ ρ) outs' Z1 s1 → FZ.Le Z Z1 → (∃ o, s1.heap.get? I = some o) → outs'.length + (G x).length ≤ 2 ^ 20 →
        wpAny (model c.prog c.w) A body (fun fin s2 => fin = .again (.compLoop e depth (.ref I) acc cenv) ∧ ∃ Z2, CS c cenv Z0 s0 W D J (bs ++ ρ) (outs' ++ G x) Z2 s2 ∧ FZ.Le Z1 Z2 ∧ Wk W s1.heap s2.heap ∧ NewF Z1 s1 Z2) NoE s1))
    (hst : st 0 s.heap) (h0 : CS c cenv Z0 s0 W D J ρ outs Z s) (hlen : outs.length + (xs.flatMap fun x => if f x then G x else []).length ≤ 2 ^ 20)
    (hR : ∀ Z' s', CS c cenv Z0 s0 W D J ρ (outs ++ xs.flatMap fun x => if f x then G x else []) Z' s' → FZ.Le Z Z' → Wk (fun a => W a ∨ a = I) s.heap s'.heap → (∀ a o, s.heap.get? a = some o → Z a = none → Z' a = none) → R (.ok .next) s') :
    codeAny (model c.prog c.w) A (.compLoop e depth (.ref I) acc cenv) R s := by
  refine comp_loopG heq hfr hq hun (fun n s1 => ∃ i Z1, i ≤ xs.length ∧ n = xs.length - i ∧ CS c cenv Z0 s0 W D J ρ (outs ++ (xs.take i).flatMap fun x => if f x then G x else []) Z1 s1 ∧ FZ.Le Z Z1 ∧ st i s1.heap ∧ Wk (fun a => W a ∨ a = I) s.heap s1.heap ∧
      (∀ a o, s.heap.get? a = some o → Z a = none → Z1 a = none) ∧ (∀ a o, s.heap.get? a = some o → ∃ o', s1.heap.get? a = some o')) ?_ xs.length
    ⟨0, Z, Nat.zero_le _, rfl, by simpa using h0, FZ.Le.refl Z, hst, Wk.refl _ _, fun _ _ _ e => e, fun _ o e => ⟨o, e⟩⟩
  rintro n s1 ⟨i, Z1, hi, hn, cs, le1, hs1, wk1, nw1, al1⟩
  have it1 := it.mono (hZi.trans le1)
  obtain ⟨oI, hoI⟩ := it.there 0 _ hst
  have hZ1I : Z1 I = none := nw1 I oI hoI hZI
  have hWo : ∀ a, W a → a ≠ I := fun a w q => hWI (q ▸ w)
  by_cases hlt : i < xs.length
  · have hx : xs[i]? = some xs[i] := List.getElem?_eq_getElem hlt
    obtain ⟨hfx, bs, hbs, hbρ, htst, hbody⟩ := hb xs[i] (List.getElem_mem hlt)
    have htake : (xs.take (i + 1)).flatMap (fun x => if f x then G x else []) = (xs.take i).flatMap (fun x => if f x then G x else []) ++ (if f xs[i] then G xs[i] else []) := by
      rw [List.take_succ_eq_append_getElem hlt, List.flatMap_append, List.flatMap_cons, List.flatMap_nil, List.append_nil]
    have hall : (xs.flatMap fun x => if f x then G x else []).length = ((xs.take (i + 1)).flatMap fun x => if f x then G x else []).length + ((xs.drop (i + 1)).flatMap fun x => if f x then G x else []).length := by
      rw [← List.length_append, ← List.flatMap_append, List.take_append_drop]
    refine it1.item i s1 xs[i] _ _ hx cs.base.zin hs1 fun v h1 tk1 hv hs2 keep1 => ?_
    have w1 : Wk (fun a => a = I) s1.heap h1 := keep1
    have z1 : ZIn Z1 h1 := fun a o e => keep1 a o (fun q => by subst q; rw [hZ1I] at e; cases e) (cs.base.zin a o e)
    have cs1 : CS c cenv Z0 s0 W D J ρ _ Z1 { s1 with heap := h1, toks := tk1 } := cs.wr (F := fun a => a = I) (fun a q => by subst q; exact hI0) hJI w1 (fun a wa q => absurd q (hWo a wa)) (fun q => hID q.symm) z1
      (cs.vars.wr w1 (fun a oa => hIo a oa) (fun x a e => hIc x a e) (fun y V hy a ha q => hIf y V hy (q ▸ ha))) cs.off
    refine it1.go (i + 1) _ target v _ _ hs2 ?_
    refine assignT (s := { s1 with heap := h1, toks := tk1 }) hE hA.1 hbs hk cs1.vars hv cs1.base.zin (fun a oa => cs1.wZ a (hT a oa).1) (fun y V hy a oa q => cs1.off y V hy a q (hT a oa).1) fun h2 tk2 v2 w2 z2 => ?_
    have off2 : ∀ y V, (bs ++ ρ).lookup y = some V → ∀ a ∈ foot V, ¬ W a := fun y V hy a ha => by
      rw [lookup_append] at hy
      cases hby : bs.lookup y with
      | some V' => rw [hby] at hy; cases hy; rw [bindT_imm hbs hfx y _ hby] at ha; cases ha
      | none => rw [hby] at hy; exact cs1.off y V hy a ha
    have cs2 : CS c cenv Z0 s0 W D J (bs ++ ρ) _ Z1 { s1 with heap := h2, toks := tk2 } := cs1.wr (F := OwnT cenv target) (fun a oa => hW a (hT a oa).1) (fun outs vs Z h Z' h' j a b w => hJ outs vs Z h Z' h' j a b (w.mono fun a oa => (hT a oa).1)) w2.keep
      (fun a wa oa => let ⟨o, e⟩ := cs1.wI a wa; w2.alive a o e) (fun q => (hT D q).2 rfl) z2 v2 off2
    have nTI : ¬ OwnT cenv target I := fun q => hWI (hT I q).1
    have hs3 : st (i + 1) h2 := it1.frame _ _ _ hs2 cs1.base.zin z2 fun o e => w2.keep I o nTI e
    refine wpAny_mono (htst cenv A { s1 with heap := h2, toks := tk2 } Z1 hE hA cs2.rd) (fun r s3 ⟨hr, kp3⟩ => ?_) fun _ _ x => x
    subst hr
    have cs3 := cs2.kp hJ kp3
    have hs4 : st (i + 1) s3.heap := it1.frame _ _ _ hs3 z2 cs3.base.zin fun o e => kp3.get I o e
    have wk3 : Wk (fun a => W a ∨ a = I) s1.heap s3.heap := fun a o na e => kp3.get a o (w2.keep a o (fun q => na (.inl (hT a q).1)) (keep1 a o (fun q => na (.inr q)) e))
    have al3 : ∀ a o, s1.heap.get? a = some o → ∃ o', s3.heap.get? a = some o' := fun a o e => by
      have e1 : ∃ o', h1.get? a = some o' := by
        by_cases q : a = I
        · subst q; exact it.there _ _ hs2
        · exact ⟨o, keep1 a o q e⟩
      obtain ⟨o1, e1⟩ := e1
      obtain ⟨o2, e2⟩ := w2.alive a o1 e1
      exact ⟨o2, kp3.get a o2 e2⟩
    have dropρ : ∀ {Z : FZ} {h : Heap}, Vars c cenv Z h (bs ++ ρ) → Vars c cenv Z h ρ := fun v => v.drop fun y V hy hg => by rw [lookup_append, hbρ y V hy]; exact hy
    cases hfv : f xs[i] with
    | false =>
      simp only [Bool.false_eq_true, if_false]
      refine ⟨xs.length - (i + 1), by omega, i + 1, Z1, hlt, rfl, ?_, le1, hs4, wk1.trans wk3, nw1, fun a o e => let ⟨o1, e1⟩ := al1 a o e; al3 a o1 e1⟩
      rw [htake, hfv]
      simp only [Bool.false_eq_true, if_false, List.append_nil]
      exact { cs3 with vars := dropρ cs3.vars, off := cs.off }
    | true =>
      simp only [if_true]
      refine wpAny_mono (hbody hfv _ Z1 s3 cs3 le1 (it.there _ _ hs4) ?_) (fun fin s4 ⟨hfin, Z2, cs4, le2, wk4, nw4⟩ => ⟨hfin, ?_⟩) fun _ _ x => x
      · rw [hall, htake, hfv] at hlen
        simp only [if_true, List.length_append] at hlen ⊢
        omega
      · refine ⟨xs.length - (i + 1), by omega, i + 1, Z2, hlt, rfl, ?_, le1.trans le2, ?_, wk1.trans (wk3.trans (wk4.mono fun a wa => .inl wa)), ?_, ?_⟩
        · rw [htake, hfv]
          simp only [if_true]
          rw [← List.append_assoc]
          exact { cs4 with vars := dropρ cs4.vars, off := cs.off }
        · exact it1.frame _ _ _ hs4 cs3.base.zin (fun a o e => cs4.base.zin a o (le2 a o e)) fun o e => wk4 I o hWI e
        · intro a o e n
          obtain ⟨o1, e1⟩ := al1 a o e
          obtain ⟨o3, e3⟩ := al3 a o1 e1
          exact nw4 a o3 e3 (nw1 a o e n)
        · intro a o e
          obtain ⟨o1, e1⟩ := al1 a o e
          obtain ⟨o3, e3⟩ := al3 a o1 e1
          by_cases wa : W a
          · exact cs4.wI a wa
          · exact ⟨o3, wk4 a o3 wa e3⟩
  · have hin : i = xs.length := by omega
    subst hin
    refine it1.done s1 _ _ cs.base.zin hs1 fun h1 tk1 keep1 => ?_
    have w1 : Wk (fun a => a = I) s1.heap h1 := keep1
    have z1 : ZIn Z1 h1 := fun a o e => keep1 a o (fun q => by subst q; rw [hZ1I] at e; cases e) (cs.base.zin a o e)
    have cs1 : CS c cenv Z0 s0 W D J ρ _ Z1 { s1 with heap := h1, toks := tk1 } := cs.wr (F := fun a => a = I) (fun a q => by subst q; exact hI0) hJI w1 (fun a wa q => absurd q (hWo a wa)) (fun q => hID q.symm) z1
      (cs.vars.wr w1 (fun a oa => hIo a oa) (fun x a e => hIc x a e) (fun y V hy a ha q => hIf y V hy (q ▸ ha))) cs.off
    rw [List.take_length] at cs1
    exact hR Z1 _ cs1 le1 (wk1.trans (w1.mono fun a q => .inr q)) nw1
end
end Mine
end
section
open PySem PyProof.Rows
set_option maxRecDepth 10000
set_option linter.unusedVariables false
set_option linter.unusedSimpArgs false
namespace Mine

def relab (scope sc : Scope) : Scope :=
  { scope with names := scope.names.map fun (n, k) => if (k == .free && sc.kind == .function && sc.names.lookup n == some .cell) then (n, .cell) else (n, k) }
theorem relabel_eq (scope : Scope) (env : Env) : relabel scope env = relab scope env.scope := rfl
def cap (scope : Scope) (ρ : Rho) : Rho := ρ.filter fun p => scope.names.lookup p.1 == some .free

theorem lookup_filter {α : Type} {p : Str → Bool} : ∀ {l : List (Str × α)} {x : Str} {v : α}, (l.filter fun q => p q.1).lookup x = some v → p x = true ∧ l.lookup x = some v
  | [], x, v, h => by simp at h
  | (n, w) :: l, x, v, h => by
    rw [List.filter_cons] at h
    by_cases hp : p n = true
    · simp only [hp, if_true, List.lookup_cons] at h ⊢
      cases hx : x == n with
      | true =>
        rw [hx] at h
        have : x = n := by simpa using hx
        subst this
        exact ⟨hp, h⟩
      | false => rw [hx] at h; exact lookup_filter h
    · simp only [hp, if_false, Bool.false_eq_true] at h
      obtain ⟨h1, h2⟩ := lookup_filter (l := l) h
      refine ⟨h1, ?_⟩
      rw [List.lookup_cons]
      cases hx : x == n with
      | true =>
        have : x = n := by simpa using hx
        subst this
        exact absurd h1 hp
      | false => exact h2

theorem lookup_mem {α : Type} : ∀ {l : List (Str × α)} {x : Str} {v : α}, (l.map (·.1)).Nodup → (x, v) ∈ l → l.lookup x = some v
  | (n, w) :: l, x, v, hn, h => by
    rw [List.map_cons, List.nodup_cons] at hn
    rw [List.lookup_cons]
    rcases List.mem_cons.mp h with e | h'
    · cases e; simp
    · cases hx : x == n with
      | true =>
        have : x = n := by simpa using hx
        subst this
        exact absurd (List.mem_map.mpr ⟨(x, v), h', rfl⟩ : x ∈ l.map (·.1)) hn.1
      | false => exact lookup_mem hn.2 h'

def closF (env : Env) (x : Str × NameKind) (r : List (Str × Addr)) : Sem (ForInStep (List (Str × Addr))) :=
  match x with
  | (name, kind) => if (kind == NameKind.free) = true then do let a ← cellOf env name; pure (ForInStep.yield ((name, a) :: r)) else pure (ForInStep.yield r)

theorem closure_ok {env : Env} : ∀ (names : List (Str × NameKind)) (acc : List (Str × Addr)), (∀ n, (n, NameKind.free) ∈ names → ∃ a, env.cells.lookup n = some a) →
    ∃ cl : List (Str × Addr), forIn names acc (closF env) = pure (cl ++ acc) ∧
      (∀ n a, (n, a) ∈ cl → env.cells.lookup n = some a) ∧ (∀ n, (n, NameKind.free) ∈ names → ∃ a, (n, a) ∈ cl) ∧ (∀ n a, (n, a) ∈ cl → (n, NameKind.free) ∈ names)
  | [], acc, _ => ⟨[], rfl, (fun _ _ h => nomatch h), (fun _ h => nomatch h), (fun _ _ h => nomatch h)⟩
  | (n, kd) :: r, acc, h => by
    by_cases hk : kd = .free
    · subst hk
      obtain ⟨a, ha⟩ := h n List.mem_cons_self
      obtain ⟨cl, h1, h2, h3, h4⟩ := closure_ok (env := env) r ((n, a) :: acc) fun m hm => h m (List.mem_cons_of_mem _ hm)
      refine ⟨cl ++ [(n, a)], ?_, fun m b hb => ?_, fun m hm => ?_, fun m b hb => ?_⟩
      · rw [List.forIn_cons]
        have e : closF env (n, .free) acc = pure (ForInStep.yield ((n, a) :: acc)) := by
          unfold closF cellOf
          simp only [beq_self_eq_true, if_true, ha]
          rfl
        rw [e]
        exact Eq.trans h1 (by simp)
      · rcases List.mem_append.mp hb with hb | hb
        · exact h2 m b hb
        · simp at hb; obtain ⟨rfl, rfl⟩ := hb; exact ha
      · rcases List.mem_cons.mp hm with e | hm
        · cases e; exact ⟨a, by simp⟩
        · obtain ⟨b, hb⟩ := h3 m hm; exact ⟨b, List.mem_append_left _ hb⟩
      · rcases List.mem_append.mp hb with hb | hb
        · exact List.mem_cons_of_mem _ (h4 m b hb)
        · simp at hb; obtain ⟨rfl, rfl⟩ := hb; exact List.mem_cons_self
    · obtain ⟨cl, h1, h2, h3, h4⟩ := closure_ok (env := env) r acc fun m hm => h m (List.mem_cons_of_mem _ hm)
      refine ⟨cl, ?_, h2, fun m hm => ?_, fun m b hb => List.mem_cons_of_mem _ (h4 m b hb)⟩
      · rw [List.forIn_cons]
        have e : closF env (n, kd) acc = pure (ForInStep.yield acc) := by
          have : (kd == NameKind.free) = false := by simpa using hk
          unfold closF
          simp only [this, Bool.false_eq_true, if_false]
        rw [e]
        exact h1
      · rcases List.mem_cons.mp hm with e | hm
        · cases e; exact absurd rfl hk
        · exact h3 m hm

theorem closureFor_ok {env : Env} {scope : Scope} (h : ∀ n, (n, NameKind.free) ∈ scope.names → ∃ a, env.cells.lookup n = some a) : ∃ cl, closureFor scope env = pure cl ∧
    (∀ n a, (n, a) ∈ cl → env.cells.lookup n = some a) ∧ (∀ n, (n, NameKind.free) ∈ scope.names → ∃ a, (n, a) ∈ cl) ∧ (∀ n a, (n, a) ∈ cl → (n, NameKind.free) ∈ scope.names) := by
  obtain ⟨cl, h1, h2⟩ := closure_ok (env := env) scope.names [] h
  refine ⟨cl, ?_, h2⟩
  rw [List.append_nil] at h1
  have e : closureFor scope env = (forIn scope.names [] (closF env) >>= fun r => pure r) := by
    unfold closureFor
    congr 1
  rw [e, h1]; rfl

theorem cellsFrom_append : ∀ (names : List (Str × NameKind)) (n : Nat) (acc : List (Str × Addr)), cellsFrom n names acc = cellsFrom n names [] ++ acc
  | [], n, acc => rfl
  | (x, kd) :: r, n, acc => by
    unfold cellsFrom
    split
    · rw [cellsFrom_append r (n + 1) ((x, n) :: acc), cellsFrom_append r (n + 1) [(x, n)]]; simp
    · exact cellsFrom_append r n acc
theorem cellsFrom_mem : ∀ (names : List (Str × NameKind)) (n : Nat) (x : Str) (a : Addr), (x, a) ∈ cellsFrom n names [] → (x, NameKind.cell) ∈ names ∧ n ≤ a
  | [], n, x, a, h => nomatch h
  | (y, kd) :: r, n, x, a, h => by
    unfold cellsFrom at h
    split at h
    · rename_i hk
      rw [cellsFrom_append] at h
      rcases List.mem_append.mp h with h | h
      · obtain ⟨h1, h2⟩ := cellsFrom_mem r (n + 1) x a h
        exact ⟨List.mem_cons_of_mem _ h1, by omega⟩
      · simp at h; obtain ⟨rfl, rfl⟩ := h
        have : kd = .cell := by simpa using hk
        subst this; exact ⟨List.mem_cons_self, Nat.le_refl _⟩
    · obtain ⟨h1, h2⟩ := cellsFrom_mem r n x a h
      exact ⟨List.mem_cons_of_mem _ h1, h2⟩
theorem cellsFrom_has : ∀ (names : List (Str × NameKind)) (n : Nat) (x : Str), (x, NameKind.cell) ∈ names → ∃ a, (x, a) ∈ cellsFrom n names []
  | [], n, x, h => nomatch h
  | (y, kd) :: r, n, x, h => by
    unfold cellsFrom
    rcases List.mem_cons.mp h with e | h
    · cases e
      simp only [beq_self_eq_true, if_true]
      rw [cellsFrom_append]
      exact ⟨n, List.mem_append_right _ (by simp)⟩
    · split
      · rw [cellsFrom_append]
        obtain ⟨a, ha⟩ := cellsFrom_has r (n + 1) x h
        exact ⟨a, List.mem_append_left _ ha⟩
      · exact cellsFrom_has r n x h
end Mine
end
section
open PySem PyProof.Rows
set_option maxRecDepth 10000
set_option linter.unusedVariables false
set_option linter.unusedSimpArgs false
namespace Mine

/-- what stands when a comprehension's loop begins -/
structure CF (c : Cx) (A : Around) (sc scope : Scope) (ρ : Rho) (xs : List V) (Z : FZ) (s : Shared) (Z1 : FZ) (I D : Addr) (st : Nat → Heap → Prop) (W : Addr → Prop) (cenv : Env) (s4 : Shared) : Prop where
  env : EnvOk (relab scope sc) cenv
  it : It c A Z1 xs I st
  st0 : st 0 s4.heap
  I0 : s.heap.get? I = none
  ZI : Z1 I = none
  ID : I ≠ D
  WI : ¬ W I
  WD : W D
  WC : W cenv.locals
  CD : cenv.locals ≠ D
  W0 : ∀ a, W a → s.heap.get? a = none
  WZ : ∀ a, W a → Z1 a = none
  W4 : ∀ a, W a → ∃ o, s4.heap.get? a = some o
  own : ∀ x, (scope.names.lookup x = some .local ∨ scope.names.lookup x = some .cell) → ∀ a, Own1 cenv x a → W a ∧ a ≠ D
  ownI : ∀ a, Own cenv a → a ≠ I
  ownD : ∀ a, Own cenv a → a ≠ D
  cellI : ∀ x a, cenv.cells.lookup x = some a → a ≠ I
  cellD : ∀ x a, cenv.cells.lookup x = some a → a ≠ D
  cells : ∀ x a, cenv.cells.lookup x = some a → W a ∨ ∃ o, s.heap.get? a = some o
  base : Base c Z1 s4
  up : Up Z s Z1 s4
  acc : s4.heap.PlainList D #[]
  vars : Vars c cenv Z1 s4.heap (cap scope ρ)
  off : ∀ y V, (cap scope ρ).lookup y = some V → ∀ a ∈ foot V, ¬ W a ∧ a ≠ I

theorem nen {a b : Nat} (h : a ≠ b) : a ≠ b := h
theorem lookup_mapk (P : Str → NameKind → Bool) : ∀ (ns : List (Str × NameKind)) (x : Str),
    (ns.map fun (n, kd) => if P n kd = true then (n, NameKind.cell) else (n, kd)).lookup x = (ns.lookup x).map fun kd => if P x kd = true then NameKind.cell else kd
  | [], x => rfl
  | (n, kd) :: r, x => by
    have ih := lookup_mapk P r x
    rw [List.map_cons]
    show List.lookup x ((if P n kd = true then (n, NameKind.cell) else (n, kd)) :: _) = _
    rw [List.lookup_cons (as := r)]
    by_cases hc : P n kd = true
    · rw [if_pos hc, List.lookup_cons]
      cases hx : x == n with
      | true =>
        have : x = n := by simpa using hx
        subst this
        simp [hc]
      | false => exact ih
    · rw [if_neg hc, List.lookup_cons]
      cases hx : x == n with
      | true =>
        have : x = n := by simpa using hx
        subst this
        simp [hc]
      | false => exact ih

theorem fresh_of_lt {h : Heap} {a : Addr} (e : h.objs.size ≤ a) : h.get? a = none := by
  cases q : h.get? a with
  | none => rfl
  | some o => exact absurd (Heap.lt_size q) (Nat.not_lt.mpr e)

section
variable {c : Cx} {k : Nat} {A : Around} {sc : Scope} {env : Env} {ρ : Rho} {xs : List V} {Z : FZ} {s : Shared}

theorem comp_setup {β : Type} {J : (Addr → Prop) → List β → List Value → FZ → Heap → Prop} {outs : List β} {elt target iter : Expr} {ifs : List Expr} {rest : List Comprehension} {scope : Scope} {pos p0 : Pos} {use : Option (Value → Sem Unit)} {Q : Value → Shared → Prop}
    (hs : ∀ x, foldedSetIterable iter env x = pure x) (hkind : scope.kind = .function) (hnd : (scope.names.map (·.1)).Nodup)
    (hfree : ∀ n, (n, NameKind.free) ∈ scope.names → sc.names.lookup n = some .cell ∨ sc.names.lookup n = some .free)
    (hE : EnvOk sc env) (hA : Room k A) (hr : Rd c env Z s ρ) (hiter : Ev c k sc ρ iter (Yields c xs))
    (loop : ∀ Z1 I D st W cenv s4, CF c A sc scope ρ xs Z s Z1 I D st W cenv s4 →
      codeAny (model c.prog c.w) A (.compLoop (.ListComp elt (⟨target, iter, ifs, 0⟩ :: rest) scope pos) 0 (.ref I) (.ref D) cenv)
        (fun r s' => ∃ Z', r = .ok .next ∧ CS c cenv Z s W D (J fun a => W a ∨ a = I) (cap scope ρ) outs Z' s') s4)
    (hfin : ∀ I D W cenv Z' s', (∀ a, W a → s.heap.get? a = none) → W D → W cenv.locals → cenv.locals ≠ D → CS c cenv Z s W D (J fun a => W a ∨ a = I) (cap scope ρ) outs Z' s' →
      compPost (model c.prog c.w) A NoE use Q (.ref D) cenv.locals (.ok .next) s') :
    wpAny (model c.prog c.w) A (comprehension (.ListComp elt (⟨target, iter, ifs, 0⟩ :: rest) scope pos) scope env p0 (newList []) false (eval iter env) use) Q NoE s := by
  obtain ⟨m, Fm0, hm⟩ := hr.fm
  have hsc : env.scope = sc := hE.scope
  have hko : ∀ x, env.kindOf x = sc.names.lookup x := fun x => by unfold Env.kindOf; rw [hsc]
  have hcells : ∀ n, (n, NameKind.free) ∈ scope.names → ∃ a, env.cells.lookup n = some a := fun n hn => by
    obtain ⟨a, e, _⟩ := Fm0.cell n (by rw [hko]; exact hfree n hn)
    exact ⟨a, e⟩
  obtain ⟨cl, hcl, hcl1, hcl2, hcl3⟩ := closureFor_ok hcells
  refine wpAny_comprehension_free (cl := cl) rfl hs hcl hkind (fun x hx hl => lookup_mem hnd (by obtain ⟨n, kd⟩ := x; simp only at hl; subst hl; exact hx)) ?_
  refine wpAny_mono (hiter env A s Z hE hA hr) (fun v s1 ⟨Z1, u1, hy⟩ => ?_) fun _ _ x => x
  refine hy A hA.1 NoE _ fun I st s2 kp2 hI0 hZI it hst => ?_
  have u2 : Up Z s Z1 s2 := u1.trans (Up.same u1.zin kp2)
  obtain ⟨oI, hI2⟩ := it.there 0 _ hst
  refine wpAny_newObj_type ?_ (by show ([] : List Value).toArray.size ≤ sizeLine; exact Nat.zero_le _)
  -- the frame
  unfold newFunctionEnv
  refine wpAny_bind (wpAny_alloc (wpAny_bind (wpAny_layCells _ (fun name kind cells => by cases hkc : kind == NameKind.cell <;> simp [hkc]) _ _ _ _ ?_)))
  have hD0 : (s2.heap.push { cls := .type "list", dict := none, data := .seq ([] : List Value).toArray }).objs.size = s2.heap.objs.size + 1 := Heap.size_push ..
  have hH1D : (s2.heap.push { cls := .type "list", dict := none, data := .seq ([] : List Value).toArray }).get? s2.heap.objs.size = some { cls := .type "list", dict := none, data := .seq ([] : List Value).toArray } := Heap.get?_push_size _ rfl
  have hH1k : ∀ a o, s2.heap.get? a = some o → (s2.heap.push { cls := .type "list", dict := none, data := .seq ([] : List Value).toArray }).get? a = some o := fun a o e => Heap.get?_push_of_some _ e
  simp only [Option.isSome_some, if_true, List.forIn_nil]
  refine wpAny_bind (wpAny_pure (wpAny_pure ?_))
  generalize hH1 : s2.heap.push { cls := .type "list", dict := none, data := .seq ([] : List Value).toArray } = H1 at hD0 hH1D hH1k ⊢
  generalize hDd : s2.heap.objs.size = D at hD0 hH1D ⊢
  have hns0 : (H1.push { cls := .type "dict", data := .dict #[] }).Ns H1.objs.size (fun _ => none) := Heap.Ns.new H1 (.type "dict")
  have hC0 : (H1.push { cls := .type "dict", data := .dict #[] }).objs.size = H1.objs.size + 1 := Heap.size_push ..
  have hH2k : ∀ a o, H1.get? a = some o → (H1.push { cls := .type "dict", data := .dict #[] }).get? a = some o := fun a o e => Heap.get?_push_of_some _ e
  generalize hH2 : H1.push { cls := .type "dict", data := .dict #[] } = H2 at hns0 hC0 hH2k ⊢
  generalize hCc : H1.objs.size = C at hD0 hns0 hC0 ⊢
  have ok := cellsFrom_ok scope.names H2 (C + 1) [] ⟨fun _ _ hm => (nomatch hm), List.Pairwise.nil⟩ (by omega)
  have hsplit := cellsFrom_append scope.names H2.objs.size cl
  generalize hnc : cellsFrom H2.objs.size scope.names [] = newc at ok hsplit
  have hncm : ∀ x a, (x, a) ∈ newc → (x, NameKind.cell) ∈ scope.names ∧ @LE.le Nat _ (C + 1) a := fun x a h => ⟨(cellsFrom_mem _ _ x a (hnc ▸ h)).1, (ok.empty x a h).2⟩
  have hnch : ∀ x, (x, NameKind.cell) ∈ scope.names → ∃ a, (x, a) ∈ newc := fun x h => hnc ▸ cellsFrom_has scope.names H2.objs.size x h
  have hH3k := pushCells_keeps scope.names H2
  generalize hcells' : cellsFrom H2.objs.size scope.names cl = cells at hsplit ⊢
  generalize hH3 : pushCells H2 scope.names = H3 at ok hH3k ⊢
  have k23 : ∀ a o, s2.heap.get? a = some o → H3.get? a = some o := fun a o e => hH3k a o (hH2k a o (hH1k a o e))
  have fr : ∀ a, @LE.le Nat _ D a → s.heap.get? a = none := fun a ha => u2.keeps.fresh (fresh_of_lt (hDd ▸ ha))
  have hID : @LT.lt Nat _ I D := hDd ▸ Heap.lt_size hI2
  -- the lookups
  have lk : ∀ x a, cells.lookup x = some a → (x, a) ∈ newc ∨ (newc.lookup x = none ∧ cl.lookup x = some a) := fun x a h => by
    rw [hsplit, lookup_append] at h
    cases q : newc.lookup x with
    | some b => rw [q] at h; cases h; exact .inl (mem_of_lookup q)
    | none => rw [q] at h; exact .inr ⟨rfl, h⟩
  have clAlive : ∀ x a, (x, a) ∈ cl → ∃ o, s.heap.get? a = some o := fun x a h => by
    obtain ⟨b, e, o, e', _⟩ := Fm0.cell x (by rw [hko]; exact hfree x (hcl3 x a h))
    rw [hcl1 x a h] at e; cases e; exact ⟨o, e'⟩
  have clLt : ∀ x a, (x, a) ∈ cl → @LT.lt Nat _ a D := fun x a h => by
    obtain ⟨o, e⟩ := clAlive x a h
    exact hDd ▸ Heap.lt_size (u2.keeps.get a o e)
  have lkD : ∀ x a, cells.lookup x = some a → a ≠ D ∧ a ≠ I ∧ a ≠ C := fun x a h => by
    rcases lk x a h with h | ⟨_, h⟩
    · have := (hncm x a h).2; exact ⟨nen (by omega), nen (by omega), nen (by omega)⟩
    · have h' := mem_of_lookup h
      have := clLt x a h'
      obtain ⟨o, e⟩ := clAlive x a h'
      exact ⟨nen (by omega), (fun q => by rw [q, hI0] at e; cases e), nen (by omega)⟩
  have rl : ∀ x, (relab scope sc).names.lookup x = (scope.names.lookup x).map fun kd => if (kd == .free && sc.kind == .function && sc.names.lookup x == some .cell) then .cell else kd := fun x =>
    lookup_mapk (fun n kd => kd == .free && sc.kind == .function && sc.names.lookup n == some .cell) scope.names x
  let cenv : Env := { scope := relabel scope env, locals := C, globals := env.globals, cells := cells, qual := env.qual, func := none, code := env.code, frame := env.frame, builtins := env.builtins }
  have hcsc : cenv.scope = relab scope sc := by show relabel scope env = _; rw [relabel_eq, hsc]
  have hck : ∀ x, cenv.kindOf x = (relab scope sc).names.lookup x := fun x => by unfold Env.kindOf; rw [hcsc]
  let W : Addr → Prop := fun a => a = D ∨ a = C ∨ ∃ x, (x, a) ∈ newc
  have hWD : ∀ a, W a → @LE.le Nat _ D a := fun a h => by
    rcases h with rfl | rfl | ⟨x, h⟩
    · exact Nat.le_refl _
    · omega
    · have := (hncm x a h).2; omega
  have cf : CF c A sc scope ρ xs Z s Z1 I D st W cenv { s2 with heap := H3 } := by
    have kp3 : Kp s2 { s2 with heap := H3 } := ⟨H3, s2.toks, rfl, k23⟩
    have u3 : Up Z s Z1 { s2 with heap := H3 } := u2.trans (Up.same u2.zin kp3)
    exact {
      env := {
        scope := hcsc
        kind := hkind
        glob := hE.glob
        bi := hE.bi
        apart := fun x y a h1 h2 => by
          rcases lk x a h1 with h1 | ⟨_, h1⟩ <;> rcases lk y a h2 with h2 | ⟨_, h2⟩
          · exact name_of_addr ok.apart h1 h2
          · have := (hncm x a h1).2; have := clLt y a (mem_of_lookup h2); omega
          · have := (hncm y a h2).2; have := clLt x a (mem_of_lookup h1); omega
          · exact hE.apart x y a (hcl1 x a (mem_of_lookup h1)) (hcl1 y a (mem_of_lookup h2))
        apartL := fun x a h => (lkD x a h).2.2 }
      it := it
      st0 := it.frame 0 _ _ hst u2.zin u3.zin fun o e => k23 I o e
      I0 := hI0
      ZI := hZI
      ID := nen (by omega)
      WI := fun h => by have := hWD I h; omega
      WD := .inl rfl
      WC := .inr (.inl rfl)
      CD := nen (by show (C : Nat) ≠ D; omega)
      W0 := fun a h => fr a (hWD a h)
      WZ := fun a h => Z_fresh u2.zin (fresh_of_lt (hDd ▸ hWD a h))
      W4 := fun a h => by
        rcases h with rfl | rfl | ⟨x, h⟩
        · exact ⟨_, hH3k _ _ (hH2k _ _ hH1D)⟩
        · obtain ⟨o, es, ep, e, _⟩ := hns0; exact ⟨o, hH3k _ _ e⟩
        · obtain ⟨o, e, _⟩ := (ok.empty x a h).1; exact ⟨o, e⟩
      own := fun x hx a h => by
        rcases h with h | ⟨h1, h2⟩
        · exact ⟨.inr (.inl h), by rw [h]; exact nen (by show (C : Nat) ≠ D; omega)⟩
        · refine ⟨?_, (lkD x a h2).1⟩
          rcases lk x a h2 with h | ⟨h3, h4⟩
          · exact .inr (.inr ⟨x, h⟩)
          · rw [hck, rl] at h1
            rcases hx with hx | hx
            · rw [hx] at h1; simp at h1
            · obtain ⟨b, hb⟩ := hnch x (mem_of_lookup hx)
              exfalso
              have : newc.lookup x ≠ none := by
                intro q
                exact absurd (List.lookup_eq_none_iff.mp q (x, b) hb) (by simp)
              exact this h3
      ownI := fun a h => by
        rcases h with h | ⟨x, _, h⟩
        · rw [h]; exact nen (by show (C : Nat) ≠ I; omega)
        · exact (lkD x a h).2.1
      ownD := fun a h => by
        rcases h with h | ⟨x, _, h⟩
        · rw [h]; exact nen (by show (C : Nat) ≠ D; omega)
        · exact (lkD x a h).1
      cellI := fun x a h => (lkD x a h).2.1
      cellD := fun x a h => (lkD x a h).1
      cells := fun x a h => (lk x a h).imp (fun h => .inr (.inr ⟨x, h⟩)) fun h => clAlive x a (mem_of_lookup h.2)
      base := hr.toBase.up u3
      up := u3
      acc := ⟨0, hH3k _ _ (hH2k _ _ hH1D)⟩
      vars := by
        refine ⟨fun x => if scope.names.lookup x = some .free then m x else none, ⟨⟨_, hns0.keeps hH3k, fun x hx => ?_⟩, fun x hx => ?_⟩, fun x V hx hg => ?_⟩
        · rw [hck, rl] at hx
          show none = if _ then _ else _
          by_cases hf : scope.names.lookup x = some .free
          · rw [hf] at hx
            exfalso
            simp only [Option.map_some, Option.some.injEq] at hx
            split at hx <;> cases hx
          · rw [if_neg hf]
        · have hk2 : scope.names.lookup x = some .cell ∨ scope.names.lookup x = some .free := by
            rw [hck, rl] at hx
            cases q : scope.names.lookup x with
            | none => rw [q] at hx; simp at hx
            | some kd =>
              rw [q] at hx
              simp only [Option.map_some, Option.some.injEq] at hx
              split at hx
              · rename_i hc
                simp only [Bool.and_eq_true, beq_iff_eq] at hc
                exact .inr (by rw [hc.1.1])
              · rcases hx with hx | hx
                · exact .inl (by rw [hx])
                · exact .inr (by rw [hx])
          rcases hk2 with hk2 | hk2
          · obtain ⟨b, hb⟩ := hnch x (mem_of_lookup hk2)
            cases q : newc.lookup x with
            | none => exact absurd (List.lookup_eq_none_iff.mp q (x, b) hb) (by simp)
            | some a =>
              refine ⟨a, ?_, ?_⟩
              · show cells.lookup x = _
                rw [hsplit, lookup_append, q]
              · rw [hk2, if_neg (by simp)]
                exact (ok.empty x a (mem_of_lookup q)).1
          · have hnn : newc.lookup x = none := by
              cases q : newc.lookup x with
              | none => rfl
              | some b =>
                have := lookup_mem hnd (hncm x b (mem_of_lookup q)).1
                rw [hk2] at this; cases this
            obtain ⟨b, hb⟩ := hcl2 x (mem_of_lookup hk2)
            cases q : cl.lookup x with
            | none => exact absurd (List.lookup_eq_none_iff.mp q (x, b) hb) (by simp)
            | some a =>
              refine ⟨a, ?_, ?_⟩
              · show cells.lookup x = _
                rw [hsplit, lookup_append, hnn]; exact q
              · obtain ⟨a', e1, e2⟩ := Fm0.cell x (by rw [hko]; exact hfree x (mem_of_lookup hk2))
                rw [hcl1 x a (mem_of_lookup q)] at e1; cases e1
                rw [hk2, if_pos rfl]
                exact e2.keeps u3.keeps.get
        · obtain ⟨h1, h2⟩ := lookup_filter (p := fun n => scope.names.lookup n == some .free) hx
          obtain ⟨v', e1, e2⟩ := hm x V h2 hg
          refine ⟨v', ?_, e2.up u3⟩
          show (if scope.names.lookup x = some .free then m x else none) = some v'
          rw [if_pos (by simpa using h1)]; exact e1
      off := fun y V hy a ha => by
        obtain ⟨h1, h2⟩ := lookup_filter (p := fun n => scope.names.lookup n == some .free) hy
        have hg : V ≠ .gone := by rintro rfl; cases ha
        obtain ⟨v', e1, e2⟩ := hm y V h2 hg
        obtain ⟨o, e⟩ := e2.footIn a ha
        exact ⟨(fun w => by rw [fr a (hWD a w)] at e; cases e), (fun q => by rw [q, hI0] at e; cases e)⟩ }
  have lp := loop Z1 I D st W cenv { s2 with heap := H3 } cf
  have lp' := codeAny_mono lp (R' := fun r s' => compPost (model c.prog c.w) A NoE use Q (.ref D) cenv.locals r s') fun r s' ⟨Z', hr', cs⟩ => by
    subst hr'
    exact hfin I D W cenv Z' s' cf.W0 cf.WD cf.WC cf.CD cs
  exact codeAny_compStart_list lp' (it.self 0 _ _ _ cf.st0 lp')
end
end Mine
end
section
open PySem PyProof.Rows
set_option maxRecDepth 10000
set_option linter.unusedVariables false
set_option linter.unusedSimpArgs false
namespace Mine

def TgtIn (scope : Scope) (t : Expr) : Prop := ∀ x ∈ tgtNames t, scope.names.lookup x = some .local ∨ scope.names.lookup x = some .cell

theorem relab_lookup (scope sc : Scope) (x : Str) : (relab scope sc).names.lookup x = (scope.names.lookup x).map fun kd => if (kd == .free && sc.kind == .function && sc.names.lookup x == some .cell) then .cell else kd :=
  lookup_mapk (fun n kd => kd == .free && sc.kind == .function && sc.names.lookup n == some .cell) scope.names x
theorem tgt_storable {scope sc : Scope} {t : Expr} (h : TgtIn scope t) : ∀ x ∈ tgtNames t, Storable (relab scope sc) x := fun x hx => by
  unfold Storable
  rw [relab_lookup]
  rcases h x hx with h | h
  · exact .inl (by rw [h]; rfl)
  · exact .inr (by rw [h]; rfl)
theorem bind_names {t : Expr} {x : V} {bs : Rho} (h : bindT t x = some bs) : ∀ y, y ∉ tgtNames t → bs.lookup y = none := by
  unfold bindT at h
  split at h
  · cases h; intro y hy
    simp only [tgtNames, List.mem_singleton] at hy
    rw [List.lookup_cons, beq_eq_false_iff_ne.mpr hy]; rfl
  · cases h; intro y hy
    simp only [tgtNames, List.mem_cons, List.not_mem_nil, or_false, not_or] at hy
    rw [List.lookup_cons, beq_eq_false_iff_ne.mpr hy.2, List.lookup_cons, beq_eq_false_iff_ne.mpr hy.1]; rfl
  · cases h
theorem cap_off {scope : Scope} {ρ : Rho} {t : Expr} {x : V} {bs : Rho} (ht : TgtIn scope t) (h : bindT t x = some bs) : ∀ y V, (cap scope ρ).lookup y = some V → bs.lookup y = none := fun y V hy => by
  obtain ⟨h1, h2⟩ := lookup_filter (p := fun n => scope.names.lookup n == some .free) hy
  refine bind_names h y fun hm => ?_
  have h1' : scope.names.lookup y = some .free := by simpa using h1
  rcases ht y hm with q | q <;> rw [h1'] at q <;> cases q

def JV (c : Cx) (_ : Addr → Prop) : List V → List Value → FZ → Heap → Prop := fun outs vs Z _ => AllR c Z vs outs
theorem JV.st {c : Cx} (U F : Addr → Prop) : JSt F (JV c U) := fun outs vs Z h Z' h' j le _ _ => j.mono le
theorem El.ofEv {c : Cx} {k : Nat} {sc : Scope} {U : Addr → Prop} {ρ : Rho} {e : Expr} {x : V} (h : Ev c k sc ρ e (Is c x)) (hf : foot x = []) (hg : x ≠ .gone) : El c k sc U (JV c U) ρ e x := fun env A s Z outs vs hE hA hr _ hj =>
  wpAny_mono (h env A s Z hE hA hr) (fun v s' ⟨Z', u, r⟩ => ⟨Z', u, (hj.mono u.le).append (.cons (Rep.immOf (r := r) hf hg) .nil)⟩) fun _ _ x => x
theorem El.ofNew {c : Cx} {k : Nat} {sc : Scope} {U : Addr → Prop} {ρ : Rho} {e : Expr} {l : List V} (h : Ev c k sc ρ e (New c l)) : El c k sc U (JV c U) ρ e (.fl l) := El.ofEv h.freeze rfl (by simp)

section
variable {β : Type} {c : Cx} {k : Nat} {A : Around} {sc scope : Scope} {ρ : Rho} {xs : List V} {Z : FZ} {s : Shared} {J : (Addr → Prop) → List β → List Value → FZ → Heap → Prop}

/-- one clause: the loop -/
theorem comp_loop1 {elt target iter : Expr} {ifs : List Expr} {pos : Pos} (hA : Room k A) (ht : TgtIn scope target)
    (hJ : ∀ U F : Addr → Prop, (∀ a, F a → U a) → JSt F (J U)) (hJ0 : ∀ U Z h, (∀ a, U a → s.heap.get? a = none) → (∀ b o, s.heap.get? b = some o → h.get? b = some o) → J U [] [] Z h) (f : V → Bool) (g : V → β)
    (hb : ∀ x ∈ xs, foot x = [] ∧ ∃ bs, bindT target x = some bs ∧ Tsts c k (relab scope sc) (bs ++ cap scope ρ) ifs (f x) ∧ (f x = true → ∀ U, El c k (relab scope sc) U (J U) (bs ++ cap scope ρ) elt (g x)))
    (hlen : xs.length ≤ 2 ^ 20) :
    ∀ Z1 I D st W cenv s4, CF c A sc scope ρ xs Z s Z1 I D st W cenv s4 →
      codeAny (model c.prog c.w) A (.compLoop (.ListComp elt [⟨target, iter, ifs, 0⟩] scope pos) 0 (.ref I) (.ref D) cenv)
        (fun r s' => ∃ Z', r = .ok .next ∧ CS c cenv Z s W D (J fun a => W a ∨ a = I) (cap scope ρ) ((xs.filter f).map g) Z' s') s4 := by
  intro Z1 I D st W cenv s4 cf
  have hfm : ∀ l : List V, (l.flatMap fun x => if f x then [g x] else []) = (l.filter f).map g := by
    intro l
    induction l with
    | nil => rfl
    | cons x r ih => rw [List.flatMap_cons, ih, List.filter_cons]; cases f x <;> simp
  have hlenf : ((xs.filter f).map g).length ≤ 2 ^ 20 := by rw [List.length_map]; exact Nat.le_trans (List.length_filter_le _ _) hlen
  have cs0 : CS c cenv Z s W D (J fun a => W a ∨ a = I) (cap scope ρ) [] Z1 s4 := ⟨cf.base, cf.up, cf.WZ, cf.W4, ⟨[], cf.acc, rfl, hJ0 _ _ _ (fun a ha => ha.elim (cf.W0 a) fun q => q ▸ cf.I0) cf.up.keeps.get⟩, cf.vars, fun y V hy a ha => (cf.off y V hy a ha).1⟩
  refine comp_loopS (turn1 elt target iter ifs scope pos (.ref I) (.ref D) cenv) rfl rfl rfl cf.env hA cf.it (FZ.Le.refl Z1) cf.W0 cf.I0 (hJ _ _ fun a h => .inl h) (hJ _ _ fun a h => .inr h) cf.WI cf.ID cf.ZI ?_ cf.ownI cf.cellI (tgt_storable ht)
    (fun y V hy q => (cf.off y V hy I q).2 rfl) f (fun x => [g x]) (fun x hx => ?_) cf.st0 cs0 ?_ (fun Z' s' cs _ _ _ => ⟨Z', rfl, ?_⟩)
  · rintro a ⟨x, hx, h⟩
    exact cf.own x (ht x hx) a h
  · obtain ⟨h1, bs, h2, h3, h4⟩ := hb x hx
    refine ⟨h1, bs, h2, cap_off ht h2, h3, fun hf outs' Z2 s2 cs le hI hl => ?_⟩
    have hap := cs.append (k := k) (A := A) (elt := elt) (b := g x) (Q := fun _ s3 => ∃ Z3, CS c cenv Z s W D (J fun a => W a ∨ a = I) (bs ++ cap scope ρ) (outs' ++ [g x]) Z3 s3 ∧ FZ.Le Z2 Z3 ∧ Wk W s2.heap s3.heap ∧ NewF Z2 s2 Z3)
      cf.W0 (hJ _ _ fun a h => .inl h) cf.WD cf.ownD cf.cellD cf.env hA (h4 hf fun a => W a ∨ a = I) (fun a ha => ha.elim (cs.wI a) fun q => q ▸ hI) (by simp at hl; omega)
      (fun Z3 s3 cs3 le3 wk3 nw3 => ⟨Z3, cs3, le3, wk3.mono (fun a q => q ▸ cf.WD), nw3⟩)
    exact wpAny_bind (wpAny_mono hap (fun _ s3 ⟨Z3, a1, a2, a3, a4⟩ => wpAny_pure ⟨rfl, Z3, a1, a2, a3, a4⟩) fun _ _ x => x)
  · rw [hfm]; simpa using hlenf
  · rw [hfm, List.nil_append] at cs; exact cs
end

section
variable {c : Cx} {k : Nat} {sc scope : Scope} {ρ : Rho} {xs : List V}

/-- a comprehension with one clause, as a value -/
theorem Ev.comp {elt target iter : Expr} {ifs : List Expr} {pos : Pos} (f : V → Bool) (g : V → V) (hiter : Ev c k sc ρ iter (Yields c xs)) 
    (hb : ∀ x ∈ xs, foot x = [] ∧ ∃ bs, bindT target x = some bs ∧ Tsts c k (relab scope sc) (bs ++ cap scope ρ) ifs (f x) ∧ (f x = true → ∀ U, El c k (relab scope sc) U (JV c U) (bs ++ cap scope ρ) elt (g x)))
    (hlen : xs.length ≤ 2 ^ 20)
    (hs : ∀ env x, foldedSetIterable iter env x = pure x := by intros; rfl) (hkind : scope.kind = .function := by rfl) (hnd : (scope.names.map (·.1)).Nodup := by decide)
    (hfree : ∀ n, (n, NameKind.free) ∈ scope.names → sc.names.lookup n = some .cell ∨ sc.names.lookup n = some .free) (ht : TgtIn scope target) :
    Ev c k sc ρ (.ListComp elt [⟨target, iter, ifs, 0⟩] scope pos) (New c ((xs.filter f).map g)) := fun env A s Z hE hA hr => by
  rw [eval_ListComp]
  refine comp_setup (J := JV c) (hs env) hkind hnd hfree hE hA hr hiter (comp_loop1 hA ht (fun U F _ => JV.st U F) (fun U Z h _ _ => .nil) f g hb hlen) ?_
  intro I D W cenv Z' s' hW hWD hWC hCD cs
  obtain ⟨m, Fm, hm⟩ := cs.vars
  obtain ⟨m0, n0, _⟩ := Fm.ns
  refine ⟨m0, n0, fun h' sb => ?_⟩
  have wk : Wk (fun a => a = cenv.locals) s'.heap h' := fun a o na e => (sb.2 a na).trans e
  have z' : ZIn Z' h' := fun a o e => wk a o (fun q => by rw [q, cs.wZ _ hWC] at e; cases e) (cs.base.zin a o e)
  obtain ⟨vs, hp, hl, hj⟩ := cs.acc
  exact ⟨Z', cs.up.wr (tk := s'.toks) wk (fun a q => q ▸ hW _ hWC) z', D, vs, rfl, hW D hWD, cs.wZ D hWD, hp.at fun o e => wk D o (Ne.symm hCD) e, hj⟩
end
end Mine
end
section
open PySem PyProof.Rows
set_option maxRecDepth 10000
set_option linter.unusedVariables false
set_option linter.unusedSimpArgs false
namespace Mine

theorem codeAny_compStart1 {prog : Program} {w : World} {A : Around} {R : Result → Shared → Prop} {s : Shared} {elt t0 i0 t1 i1 : Expr} {f0 f1 : List Expr} {scope : Scope} {pos : Pos} {it acc : Value} {env : Env}
    (h0 : codeAny (model prog w) A (.compLoop (.ListComp elt [⟨t0, i0, f0, 0⟩, ⟨t1, i1, f1, 0⟩] scope pos) 1 it acc env) R s)
    (h : wpAny (model prog w) A (pyIter it) (fun it' s' => codeAny (model prog w) A (.compLoop (.ListComp elt [⟨t0, i0, f0, 0⟩, ⟨t1, i1, f1, 0⟩] scope pos) 1 it' acc env) R s')
      (notedBy (model prog w) A env fun x s' => R (.error x) s') s) :
    codeAny (model prog w) A (.compStart (.ListComp elt [⟨t0, i0, f0, 0⟩, ⟨t1, i1, f1, 0⟩] scope pos) 1 it acc env) R s := by
  refine codeAny_of_tree ?_
  show wpAny _ _ ((compStart (.ListComp elt [⟨t0, i0, f0, 0⟩, ⟨t1, i1, f1, 0⟩] scope pos) 1 it acc env).onRaise (fun x => do noteFrame x env; standAt theWindowsPlace)) _ _ s
  refine wpAny_notedAt ?_
  unfold compStart
  show wpAny _ _ (ask >>= _) _ _ s
  refine wpAny_bind (wpAny_askSetting (wpAny_ite ?_))
  split
  · exact wpAny_bind (wpAny_pure (wpAny_pure (And.intro rfl h0)))
  · refine wpAny_bind (wpAny_rule ?_); show wpAny _ _ (standAt i1.pos >>= _) _ _ s; exact wpAny_bind (wpAny_standAt (wpAny_bind (wpAny_mono h (fun it' s' h' => wpAny_pure (And.intro rfl h')) fun _ _ x => x)))

theorem CS.own {β : Type} {c : Cx} {cenv : Env} {Z0 : FZ} {s0 : Shared} {W : Addr → Prop} {D : Addr} {J : List β → List Value → FZ → Heap → Prop} {ρ : Rho} {outs : List β} {Z : FZ} {s : Shared}
    (x : CS c cenv Z0 s0 W D J ρ outs Z s) {I : Addr} (hI : s.heap.get? I = none) : (∀ y V, ρ.lookup y = some V → I ∉ foot V) ∧ I ≠ D ∧ ¬ W I := by
  refine ⟨fun y V hy q => ?_, fun q => ?_, fun w => ?_⟩
  · obtain ⟨m, F, hm⟩ := x.vars
    have hg : V ≠ .gone := by rintro rfl; cases q
    obtain ⟨v, _, r⟩ := hm y V hy hg
    obtain ⟨o, e⟩ := r.footIn I q
    rw [hI] at e; cases e
  · obtain ⟨vs, ⟨n, e⟩, _⟩ := x.acc
    rw [← q, hI] at e; cases e
  · obtain ⟨o, e⟩ := x.wI I w
    rw [hI] at e; cases e

section
variable {c : Cx} {k : Nat} {sc scope : Scope} {ρ : Rho} {xs : List V}

theorem Ev.comp2 {elt t0 i0 t1 i1 : Expr} {ifs0 ifs1 : List Expr} {pos : Pos} (f0 : V → Bool) (ys : V → List V) (f1 : V → V → Bool) (g : V → V → V) (hiter : Ev c k sc ρ i0 (Yields c xs))
    (hb : ∀ x ∈ xs, foot x = [] ∧ ∃ bs, bindT t0 x = some bs ∧ Tsts c k (relab scope sc) (bs ++ cap scope ρ) ifs0 (f0 x) ∧ (f0 x = true → Ev c k (relab scope sc) (bs ++ cap scope ρ) i1 (Yields c (ys x)) ∧
      ∀ y ∈ ys x, foot y = [] ∧ ∃ bs', bindT t1 y = some bs' ∧ Tsts c k (relab scope sc) (bs' ++ (bs ++ cap scope ρ)) ifs1 (f1 x y) ∧ (f1 x y = true → ∀ U, El c k (relab scope sc) U (JV c U) (bs' ++ (bs ++ cap scope ρ)) elt (g x y))))
    (hdis : ∀ x ∈ tgtNames t0, x ∉ tgtNames t1)
    (hlen : (xs.flatMap fun x => if f0 x then ((ys x).flatMap fun y => if f1 x y then [g x y] else []) else []).length ≤ 2 ^ 20)
    (hs0 : ∀ env x, foldedSetIterable i0 env x = pure x := by intros; rfl) (hs1 : ∀ env x, foldedSetIterable i1 env x = pure x := by intros; rfl) (hkind : scope.kind = .function := by rfl) (hnd : (scope.names.map (·.1)).Nodup := by decide)
    (hfree : ∀ n, (n, NameKind.free) ∈ scope.names → sc.names.lookup n = some .cell ∨ sc.names.lookup n = some .free) (ht0 : TgtIn scope t0) (ht1 : TgtIn scope t1) :
    Ev c k sc ρ (.ListComp elt [⟨t0, i0, ifs0, 0⟩, ⟨t1, i1, ifs1, 0⟩] scope pos) (New c (xs.flatMap fun x => if f0 x then ((ys x).flatMap fun y => if f1 x y then [g x y] else []) else [])) := fun env A s Z hE hA hr => by
  rw [eval_ListComp]
  refine comp_setup (J := JV c) (outs := xs.flatMap fun x => if f0 x then ((ys x).flatMap fun y => if f1 x y then [g x y] else []) else []) (hs0 env) hkind hnd hfree hE hA hr hiter ?_ ?_
  · intro Z1 I D st W cenv s4 cf
    have cs0 : CS c cenv Z s W D (JV c fun a => W a ∨ a = I) (cap scope ρ) [] Z1 s4 := ⟨cf.base, cf.up, cf.WZ, cf.W4, ⟨[], cf.acc, rfl, .nil⟩, cf.vars, fun y V hy a ha => (cf.off y V hy a ha).1⟩
    refine comp_loopS (turn20 elt t0 i0 t1 i1 ifs0 ifs1 scope pos (.ref I) (.ref D) cenv) rfl rfl rfl cf.env hA cf.it (FZ.Le.refl Z1) cf.W0 cf.I0 (JV.st _ _) (JV.st _ _) cf.WI cf.ID cf.ZI ?_ cf.ownI cf.cellI (tgt_storable ht0)
      (fun y V hy q => (cf.off y V hy I q).2 rfl) f0 (fun x => (ys x).flatMap fun y => if f1 x y then [g x y] else []) (fun x hx => ?_) cf.st0 cs0 (by simpa using hlen) (fun Z' s' cs _ _ _ => ⟨Z', rfl, by simpa using cs⟩)
    · rintro a ⟨x, hx, h⟩
      exact cf.own x (ht0 x hx) a h
    · obtain ⟨h1, bs, h2, h3, h4⟩ := hb x hx
      refine ⟨h1, bs, h2, cap_off ht0 h2, h3, fun hf outs' Z2 s2 cs le hI hl => ?_⟩
      obtain ⟨h5, h6⟩ := h4 hf
      refine wpAny_bind (wpAny_mono (h5 cenv A s2 Z2 cf.env hA cs.rd) (fun v s3 ⟨Z3, u3, hy⟩ => ?_) fun _ _ x => x)
      refine wpAny_bind (wpAny_standAt (wpAny_bind (wpAny_of_eq (hs1 cenv v) (wpAny_bind (wpAny_holding ?_)))))
      refine hy A hA.1 NoE _ fun I' st' s5 kp5 hI0' hZI' it' hst' => ?_
      have cs3 := cs.up' (JV.st _ _) u3
      have cs5 := cs3.kp (JV.st _ _) kp5
      obtain ⟨oI', hI5⟩ := it'.there 0 _ hst'
      have hs20 : s.heap.get? I' = Option.none := cs.up.keeps.fresh hI0'
      obtain ⟨q1, q2, q3⟩ := cs.own hI0'
      obtain ⟨m, Fm, hm⟩ := cs.vars
      have qL : cenv.locals ≠ I' := fun q => by obtain ⟨m0, ⟨o, _, _, e, _⟩, _⟩ := Fm.ns; rw [q, hI0'] at e; cases e
      -- the cells are there
      have qC : ∀ x a, cenv.cells.lookup x = some a → a ≠ I' := fun x a e q => by
        rcases cf.cells x a e with w | ⟨o, e'⟩
        · exact q3 (q ▸ w)
        · have := cs.up.keeps.get a o e'; rw [q, hI0'] at this; cases this
      have qO : ∀ a, Own cenv a → a ≠ I' := fun a oa => by
        rcases oa with e | ⟨x, _, e⟩
        · rw [e]; exact qL
        · exact qC x a e
      have lp : codeAny (model c.prog c.w) A (.compLoop (.ListComp elt [⟨t0, i0, ifs0, 0⟩, ⟨t1, i1, ifs1, 0⟩] scope pos) 1 (.ref I') (.ref D) cenv)
          (fun r s' => r = .ok .next ∧ ∃ Z4, CS c cenv Z s W D (JV c fun a => W a ∨ a = I) (bs ++ cap scope ρ) (outs' ++ (ys x).flatMap fun y => if f1 x y then [g x y] else []) Z4 s' ∧ FZ.Le Z2 Z4 ∧ Wk W s2.heap s'.heap ∧ NewF Z2 s2 Z4) s5 := by
        refine comp_loopS (turn21 elt t0 i0 t1 i1 ifs0 ifs1 scope pos (.ref I') (.ref D) cenv) rfl rfl rfl cf.env hA it' (FZ.Le.refl Z3) cf.W0 hs20 (JV.st _ _) (JV.st _ _) q3 q2 hZI' ?_ qO qC (tgt_storable ht1) q1 (f1 x) (fun y => [g x y])
          (fun y hy => ?_) hst' cs5 (by simpa using hl) (fun Z' s' cs' le' wk' nw' => ⟨rfl, Z', cs', u3.le.trans le', ?_, ?_⟩)
        · rintro a ⟨x, hx, h⟩
          exact cf.own x (ht1 x hx) a h
        · obtain ⟨h1', bs', h2', h3', h4'⟩ := h6 y hy
          refine ⟨h1', bs', h2', fun z V hz => ?_, h3', fun hf' outs2 Z6 s6 cs6 le6 hI6 hl6 => ?_⟩
          · rw [lookup_append] at hz
            cases hbz : bs.lookup z with
            | some V' =>
              refine bind_names h2' z fun hz1 => ?_
              have : z ∈ tgtNames t0 := by
                by_cases hm : z ∈ tgtNames t0
                · exact hm
                · rw [bind_names h2 z hm] at hbz; cases hbz
              exact hdis z this hz1
            | none => rw [hbz] at hz; exact cap_off ht1 h2' z V hz
          · have hap := cs6.append (k := k) (A := A) (elt := elt) (b := g x y) (Q := fun _ s3 => ∃ Z3, CS c cenv Z s W D (JV c fun a => W a ∨ a = I) (bs' ++ (bs ++ cap scope ρ)) (outs2 ++ [g x y]) Z3 s3 ∧ FZ.Le Z6 Z3 ∧ Wk W s6.heap s3.heap ∧ NewF Z6 s6 Z3)
              cf.W0 (JV.st _ _) cf.WD cf.ownD cf.cellD cf.env hA (h4' hf' W) cs6.wI (by simp at hl6; omega)
              (fun Z3 s3 cs3 le3 wk3 nw3 => ⟨Z3, cs3, le3, wk3.mono (fun a q => q ▸ cf.WD), nw3⟩)
            exact wpAny_bind (wpAny_mono hap (fun _ s3 ⟨Z3, a1, a2, a3, a4⟩ => wpAny_pure ⟨rfl, Z3, a1, a2, a3, a4⟩) fun _ _ x => x)
        · intro a o na e
          refine wk' a o (fun q => ?_) (kp5.get a o (u3.keeps.get a o e))
          rcases q with q | q
          · exact na q
          · rw [q, hI0'] at e; cases e
        · intro a o e n
          refine nw' a o (kp5.get a o (u3.keeps.get a o e)) ?_
          cases q : Z3 a with
          | none => rfl
          | some o' => rw [u3.new a o' q n] at e; cases e
      refine wpAny_bind (wpAny_runOwn ?_)
      refine codeAny_mono (codeAny_compStart1 lp (it'.self 0 _ _ _ hst' lp)) fun r s' ⟨hr', hh⟩ => ?_
      subst hr'
      exact wpAny_pure ⟨rfl, hh⟩
  · intro I D W cenv Z' s' hW hWD hWC hCD cs
    obtain ⟨m, Fm, hm⟩ := cs.vars
    obtain ⟨m0, n0, _⟩ := Fm.ns
    refine ⟨m0, n0, fun h' sb => ?_⟩
    have wk : Wk (fun a => a = cenv.locals) s'.heap h' := fun a o na e => (sb.2 a na).trans e
    have z' : ZIn Z' h' := fun a o e => wk a o (fun q => by rw [q, cs.wZ _ hWC] at e; cases e) (cs.base.zin a o e)
    obtain ⟨vs, hp, hl, hj⟩ := cs.acc
    exact ⟨Z', cs.up.wr (tk := s'.toks) wk (fun a q => q ▸ hW _ hWC) z', D, vs, rfl, hW D hWD, cs.wZ D hWD, hp.at fun o e => wk D o (Ne.symm hCD) e, hj⟩
end
end Mine
end
section
open PySem PyProof.Rows
set_option maxRecDepth 10000
set_option linter.unusedVariables false
set_option linter.unusedSimpArgs false
namespace Mine

def Pre (R : Out) : Prop := ∀ Z s Z1 s1 Z' s' v, Up Z s Z1 s1 → R Z1 s1 Z' s' v → R Z s Z' s' v
theorem Pre.is {c : Cx} {x : V} : Pre (Is c x) := fun _ _ _ _ _ _ _ _ h => h
theorem Pre.new {c : Cx} {l : List V} : Pre (New c l) := fun _ _ _ _ _ _ _ u ⟨a, vs, h1, h2, h3⟩ => ⟨a, vs, h1, u.keeps.fresh h2, h3⟩

section
variable {c : Cx} {k : Nat} {sc : Scope} {ρ : Rho} {pos : Pos}

/-- one more step behind an expression's value -/
theorem Ev.then' {e : Expr} {x : V} {R : Out} {env : Env} {A : Around} {s : Shared} {Z : FZ} {f : Value → Sem Value} (h : Ev c k sc ρ e (Is c x)) (hE : EnvOk sc env) (hA : Room k A) (hr : Rd c env Z s ρ) (hp : Pre R)
    (hf : ∀ v s1 Z1, Up Z s Z1 s1 → Rd c env Z1 s1 ρ → Rep c Z1 s1.heap v x → wpAny (model c.prog c.w) A (f v) (fun r s' => ∃ Z', Up Z1 s1 Z' s' ∧ R Z1 s1 Z' s' r) NoE s1) :
    wpAny (model c.prog c.w) A (eval e env) (fun v s1 => wpAny (model c.prog c.w) A (f v) (fun r s' => ∃ Z', Up Z s Z' s' ∧ R Z s Z' s' r) NoE s1) NoE s :=
  wpAny_mono (h env A s Z hE hA hr) (fun v s1 ⟨Z1, u, r⟩ => wpAny_mono (hf v s1 Z1 u (hr.up u) r) (fun r s' ⟨Z', u', q⟩ => ⟨Z', u.trans u', hp _ _ _ _ _ _ _ u q⟩) fun _ _ x => x) fun _ _ x => x

def BinOk (c : Cx) (op : Operator) (x y : V) (R : Out) : Prop := ∀ A s Z v w, Room 0 A → Base c Z s → Rep c Z s.heap v x → Rep c Z s.heap w y → wpAny (model c.prog c.w) A (binaryOp op v w) (fun r s' => ∃ Z', Up Z s Z' s' ∧ R Z s Z' s' r) NoE s

theorem Ev.bin {l r : Expr} {op : Operator} {x y : V} {R : Out} (hl : Ev c k sc ρ l (Is c x)) (hr : Ev c k sc ρ r (Is c y)) (h : BinOk c op x y R) (hp : Pre R) : Ev c k sc ρ (.BinOp l op r pos) R := fun env A s Z hE hA hrd =>
  wpAny_BinOp (wpAny_mono (hl env A s Z hE hA hrd) (fun v s1 ⟨Z1, u1, r1⟩ => wpAny_mono (hr env A s1 Z1 hE hA (hrd.up u1)) (fun w s2 ⟨Z2, u2, r2⟩ =>
    wpAny_mono (h A s2 Z2 v w (hA.mono (Nat.zero_le _)) ((hrd.up u1).up u2).toBase (r1.up u2) r2) (fun r s' ⟨Z', u', q⟩ => ⟨Z', (u1.trans u2).trans u', hp _ _ _ _ _ _ _ (u1.trans u2) q⟩) fun _ _ x => x) fun _ _ x => x) fun _ _ x => x)

def IntOp (op : Operator) (a b r : Int) : Prop := ∀ {prog : Program} {w : World} {A : Around} {E : Value → Shared → Prop} {s : Shared} {t u : Tok} {Q : Value → Shared → Prop}, Q (.int r s.toks) { s with toks := s.toks + 1 } → wpAny (model prog w) A (binaryOp op (.int a t) (.int b u)) Q E s
theorem BinOk.int {op : Operator} {a b r : Int} (h : IntOp op a b r) : BinOk c op (.int a) (.int b) (Is c (.int r)) := fun A s Z v w hA hB hv hw => by
  obtain ⟨t, rfl⟩ := int_inv hv; obtain ⟨u, rfl⟩ := int_inv hw
  exact h ⟨Z, Up.same hB.zin Kp.tok, .imm (.int _ _)⟩
theorem IntOp.add (a b : Int) : IntOp .Add a b (a + b) := fun h => add_int h
theorem IntOp.sub (a b : Int) : IntOp .Sub a b (a - b) := fun h => sub_int h
theorem IntOp.mul (a b : Int) (h : IntMulOk a b) : IntOp .Mult a b (a * b) := fun hq => mul_int hq h
theorem IntOp.fdiv (a b : Int) (hb : b ≠ 0) (h : Builtin.divisionGoesByPylong a b = false) : IntOp .FloorDiv a b (a.fdiv b) := fun hq => floordiv_int hb hq (.inl h)
theorem IntOp.fmod (a b : Int) (hb : b ≠ 0) : IntOp .Mod a b (a.fmod b) := fun hq => mod_int' hb hq
theorem IntOp.shr (a b : Int) (hb : 0 ≤ b) : IntOp .RShift a b (a.fdiv (2 ^ b.toNat)) := fun hq => rshift_int hb hq
theorem IntOp.band (a b : Int) : IntOp .BitAnd a b (Builtin.bitAnd a b) := fun hq => and_int hq

theorem Ev.iop {l r : Expr} {op : Operator} {a b q : Int} (hl : Ev c k sc ρ l (Is c (.int a))) (hr : Ev c k sc ρ r (Is c (.int b))) (h : IntOp op a b q) : Ev c k sc ρ (.BinOp l op r pos) (Is c (.int q)) := Ev.bin hl hr (BinOk.int h) Pre.is

theorem Ev.neg {e : Expr} {a : Int} (h : Ev c k sc ρ e (Is c (.int a))) : Ev c k sc ρ (.UnaryOp .USub e pos) (Is c (.int (-a))) := fun env A s Z hE hA hrd =>
  wpAny_UnaryOp (Ev.then' h hE hA hrd Pre.is fun v s1 Z1 u r1 r => by
    obtain ⟨t, rfl⟩ := int_inv r
    exact neg_int ⟨Z1, Up.same r1.zin Kp.tok, .imm (.int _ _)⟩)

/-- a value's truth -/
def Tru (c : Cx) (x : V) (b : Bool) : Prop := ∀ A s Z v, Room 0 A → Base c Z s → Rep c Z s.heap v x → wpAny (model c.prog c.w) A (truthy v) (fun r s' => r = b ∧ Kp s s') NoE s
theorem Tru.bool (b : Bool) : Tru c (.bool b) b := fun A s Z v hA hB hv => by obtain rfl := bool_inv hv; exact wpAny_truthy_bool ⟨rfl, Kp.rf s⟩
theorem Tru.int (a : Int) : Tru c (.int a) (a != 0) := fun A s Z v hA hB hv => by obtain ⟨t, rfl⟩ := int_inv hv; exact truthy_int ⟨rfl, Kp.rf s⟩
theorem Tru.items {x : V} {l : List V} (h : x.items = some l) (hl : l.length ≤ 2 ^ 20) : Tru c x (!l.isEmpty) := fun A s Z v hA hB hv => by
  obtain ⟨a, vs, rfl, hi, al⟩ := hv.isList hB.zin h
  have hlen := al.length
  refine wpAny_truthy_list hi (by rw [List.size_toArray]; omega) ⟨?_, Kp.tok⟩
  cases vs <;> cases l <;> simp_all

theorem Ev.cmp {l r : Expr} {op : CmpOp} {x y : V} {b : Bool} (hl : Ev c k sc ρ l (Is c x)) (hr : Ev c k sc ρ r (Is c y)) (h : CmpOk c op x y b) (hm : behindInMarks op r = false := by with_unfolding_all rfl) : Ev c k sc ρ (.Compare l [op] [r] pos) (Is c (.bool b)) := fun env A s Z hE hA hrd =>
  wpAny_Compare1 (wpAny_mono (hl env A s Z hE hA hrd) (fun v s1 ⟨Z1, u1, r1⟩ => wpAny_mono (hr env A s1 Z1 hE hA (hrd.up u1)) (fun w s2 ⟨Z2, u2, r2⟩ =>
    wpAny_mono (h A s2 Z2 v w (hA.mono (Nat.zero_le _)) ((hrd.up u1).up u2).toBase (r1.up u2) r2) (fun r s' ⟨hr', kp⟩ => ⟨Z2, (u1.trans u2).trans (Up.same u2.zin kp), by rw [hr']; exact .imm (.bool b)⟩) fun _ _ x => x) fun _ _ x => x) fun _ _ x => x) hm
theorem Tst.cmp {l r : Expr} {op : CmpOp} {x y : V} {b : Bool} (hl : Ev c k sc ρ l (Is c x)) (hr : Ev c k sc ρ r (Is c y)) (h : CmpOk c op x y b) (hm : behindInMarks op r = false := by with_unfolding_all rfl) : Tst c k sc ρ (.Compare l [op] [r] pos) b := fun env A s Z hE hA hrd =>
  wpAny_isTrue_Compare1 (wpAny_mono (hl env A s Z hE hA hrd) (fun v s1 ⟨Z1, u1, r1⟩ => wpAny_mono (hr env A s1 Z1 hE hA (hrd.up u1)) (fun w s2 ⟨Z2, u2, r2⟩ =>
    wpAny_mono (h A s2 Z2 v w (hA.mono (Nat.zero_le _)) ((hrd.up u1).up u2).toBase (r1.up u2) r2) (fun r s' ⟨hr', kp⟩ => by subst hr'; exact wpAny_truthy_bool ⟨rfl, (u1.trans u2).keeps.trans' kp⟩) fun _ _ x => x) fun _ _ x => x) fun _ _ x => x) hm

theorem Tst.val {e : Expr} {x : V} {b : Bool} (h : Ev c k sc ρ e (Is c x)) (ht : Tru c x b) (he : ∀ env whole, isTrue e env whole = (do let v ← whole; standAt e.pos; holding [v] (truthy v)) := by intros; rfl) : Tst c k sc ρ e b := fun env A s Z hE hA hrd =>
  wpAny_isTrue_value (wpAny_mono (h env A s Z hE hA hrd) (fun v s1 ⟨Z1, u1, r1⟩ => wpAny_mono (ht A s1 Z1 v (hA.mono (Nat.zero_le _)) (hrd.up u1).toBase r1) (fun r s' ⟨hr, kp⟩ => ⟨hr, u1.keeps.trans' kp⟩) fun _ _ x => x) fun _ _ x => x) (he env _)
theorem Tst.not {e : Expr} {b : Bool} (h : Tst c k sc ρ e b) : Tst c k sc ρ (.UnaryOp .Not e pos) (!b) := fun env A s Z hE hA hrd =>
  wpAny_isTrue_Not (wpAny_mono (h env A s Z hE hA hrd) (fun r s' ⟨hr, kp⟩ => ⟨by rw [hr], kp⟩) fun _ _ x => x)
theorem Ev.not {e : Expr} {x : V} {b : Bool} (h : Ev c k sc ρ e (Is c x)) (ht : Tru c x b) : Ev c k sc ρ (.UnaryOp .Not e pos) (Is c (.bool (!b))) := fun env A s Z hE hA hrd =>
  wpAny_UnaryOp (Ev.then' h hE hA hrd Pre.is fun v s1 Z1 u r1 r => not_value (wpAny_mono (ht A s1 Z1 v (hA.mono (Nat.zero_le _)) r1.toBase r) (fun r s' ⟨hr, kp⟩ => ⟨Z1, Up.same r1.zin kp, by rw [hr]; exact .imm (.bool _)⟩) fun _ _ x => x))

theorem Tst.and {x y : Expr} {b b' : Bool} (h : Tst c k sc ρ x b) (h' : b = true → Tst c k sc ρ y b') : Tst c k sc ρ (.BoolOp .And [x, y] pos) (b && b') := fun env A s Z hE hA hrd => by
  refine wpAny_isTrue_BoolOp (wpAny_allTrue_And_cons (wpAny_mono (h env A s Z hE hA hrd) (fun r s1 ⟨hr, kp⟩ => ?_) fun _ _ x => x))
  subst hr
  cases r with
  | false => exact ⟨rfl, kp⟩
  | true =>
    refine wpAny_allTrue_And_cons (wpAny_mono (h' rfl env A s1 Z hE hA (hrd.up (Up.same hrd.zin kp))) (fun r s2 ⟨hr, kp2⟩ => ?_) fun _ _ x => x)
    subst hr
    cases r with
    | false => exact ⟨rfl, kp.trans' kp2⟩
    | true => exact wpAny_allTrue_And_nil ⟨rfl, kp.trans' kp2⟩
theorem Tst.or {x y : Expr} {b b' : Bool} (h : Tst c k sc ρ x b) (h' : b = false → Tst c k sc ρ y b') : Tst c k sc ρ (.BoolOp .Or [x, y] pos) (b || b') := fun env A s Z hE hA hrd => by
  refine wpAny_isTrue_BoolOp (wpAny_allTrue_Or_cons (wpAny_mono (h env A s Z hE hA hrd) (fun r s1 ⟨hr, kp⟩ => ?_) fun _ _ x => x))
  subst hr
  cases r with
  | true => exact ⟨rfl, kp⟩
  | false =>
    refine wpAny_allTrue_Or_cons (wpAny_mono (h' rfl env A s1 Z hE hA (hrd.up (Up.same hrd.zin kp))) (fun r s2 ⟨hr, kp2⟩ => ?_) fun _ _ x => x)
    subst hr
    cases r with
    | true => exact ⟨rfl, kp.trans' kp2⟩
    | false => exact wpAny_allTrue_Or_nil ⟨rfl, kp.trans' kp2⟩
theorem Tst.and3 {x y z : Expr} {b b' b'' : Bool} (h : Tst c k sc ρ x b) (h' : b = true → Tst c k sc ρ y b') (h'' : b = true → b' = true → Tst c k sc ρ z b'') : Tst c k sc ρ (.BoolOp .And [x, y, z] pos) (b && b' && b'') := fun env A s Z hE hA hrd => by
  refine wpAny_isTrue_BoolOp (wpAny_allTrue_And_cons (wpAny_mono (h env A s Z hE hA hrd) (fun r s1 ⟨hr, kp⟩ => ?_) fun _ _ x => x))
  subst hr
  cases r with
  | false => exact ⟨rfl, kp⟩
  | true =>
    refine wpAny_allTrue_And_cons (wpAny_mono (h' rfl env A s1 Z hE hA (hrd.up (Up.same hrd.zin kp))) (fun r s2 ⟨hr, kp2⟩ => ?_) fun _ _ x => x)
    subst hr
    cases r with
    | false => exact ⟨rfl, kp.trans' kp2⟩
    | true =>
      refine wpAny_allTrue_And_cons (wpAny_mono (h'' rfl rfl env A s2 Z hE hA (hrd.up (Up.same hrd.zin (kp.trans' kp2)))) (fun r s3 ⟨hr, kp3⟩ => ?_) fun _ _ x => x)
      subst hr
      cases r with
      | false => exact ⟨rfl, (kp.trans' kp2).trans' kp3⟩
      | true => exact wpAny_allTrue_And_nil ⟨rfl, (kp.trans' kp2).trans' kp3⟩

theorem Ev.and {x y : Expr} {b b' : Bool} (h : Ev c k sc ρ x (Is c (.bool b))) (h' : b = true → Ev c k sc ρ y (Is c (.bool b'))) : Ev c k sc ρ (.BoolOp .And [x, y] pos) (Is c (.bool (b && b'))) := fun env A s Z hE hA hrd => by
  refine wpAny_And2 (wpAny_mono (h env A s Z hE hA hrd) (fun v s1 ⟨Z1, u1, r1⟩ => ?_) fun _ _ x => x)
  obtain rfl := bool_inv r1
  refine wpAny_truthy_bool ?_
  cases b with
  | false => exact ⟨Z1, u1, .imm (.bool _)⟩
  | true => exact wpAny_mono (h' rfl env A s1 Z1 hE hA (hrd.up u1)) (fun v s2 ⟨Z2, u2, r2⟩ => ⟨Z2, u1.trans u2, r2⟩) fun _ _ x => x
theorem Ev.or {x y : Expr} {b b' : Bool} (h : Ev c k sc ρ x (Is c (.bool b))) (h' : b = false → Ev c k sc ρ y (Is c (.bool b'))) : Ev c k sc ρ (.BoolOp .Or [x, y] pos) (Is c (.bool (b || b'))) := fun env A s Z hE hA hrd => by
  refine wpAny_Or2 (wpAny_mono (h env A s Z hE hA hrd) (fun v s1 ⟨Z1, u1, r1⟩ => ?_) fun _ _ x => x)
  obtain rfl := bool_inv r1
  refine wpAny_truthy_bool ?_
  cases b with
  | true => exact ⟨Z1, u1, .imm (.bool _)⟩
  | false => exact wpAny_mono (h' rfl env A s1 Z1 hE hA (hrd.up u1)) (fun v s2 ⟨Z2, u2, r2⟩ => ⟨Z2, u1.trans u2, r2⟩) fun _ _ x => x
end
end Mine
end
section
open PySem PyProof.Rows
set_option maxRecDepth 10000
set_option linter.unusedVariables false
set_option linter.unusedSimpArgs false
namespace Mine

def RepL (c : Cx) (Z : FZ) (h : Heap) : List Value → List V → Prop
  | [], [] => True
  | v :: vs, x :: xs => Rep c Z h v x ∧ RepL c Z h vs xs
  | _, _ => False
theorem RepL.up {c : Cx} {Z Z' : FZ} {s s' : Shared} (u : Up Z s Z' s') : ∀ {vs xs}, RepL c Z s.heap vs xs → RepL c Z' s'.heap vs xs
  | [], [], _ => trivial
  | _ :: _, _ :: _, ⟨a, b⟩ => ⟨a.up u, RepL.up u b⟩
  | [], _ :: _, h => h
  | _ :: _, [], h => h

/-- the arguments of a call, one after the other -/
def EvA (c : Cx) (k : Nat) (sc : Scope) (ρ : Rho) (es : List Expr) (xs : List V) : Prop :=
  ∀ pos env A s Z, EnvOk sc env → Room k A → Rd c env Z s ρ →
    wpAny (model c.prog c.w) A (spliced (backTo pos (starEach es env))) (fun vs s' => ∃ Z', Up Z s Z' s' ∧ RepL c Z' s'.heap vs xs) NoE s

def plainE : Expr → Bool
  | .Starred .. => false
  | _ => true
theorem starEach_plain {e : Expr} {es : List Expr} {env : Env} (h : plainE e = true) : starEach (e :: es) env = (false, eval e env) :: starEach es env := by
  cases e <;> first | rfl | cases h

section
variable {c : Cx} {k : Nat} {sc : Scope} {ρ : Rho} {pos : Pos}
theorem EvA.nil : EvA c k sc ρ [] [] := fun pos env A s Z hE hA hr => wpAny_items_nil ⟨Z, Up.refl hr.zin, trivial⟩
theorem EvA.cons {e : Expr} {es : List Expr} {x : V} {xs : List V} (h : Ev c k sc ρ e (Is c x)) (t : EvA c k sc ρ es xs) (hp : plainE e = true := by rfl) : EvA c k sc ρ (e :: es) (x :: xs) := fun pos env A s Z hE hA hr =>
  wpAny_items_cons (wpAny_mono (h env A s Z hE hA hr) (fun v s1 ⟨Z1, u1, r1⟩ => wpAny_mono (t pos env A s1 Z1 hE hA (hr.up u1)) (fun vs s2 ⟨Z2, u2, r2⟩ => ⟨Z2, u1.trans u2, r1.up u2, r2⟩) fun _ _ x => x) fun _ _ x => x) (starEach_plain hp)

/-- a call of a built-in value -/
def CallOk (c : Cx) (f : Value) (xs : List V) (R : Out) : Prop := ∀ A s Z vs, Room 0 A → Base c Z s → RepL c Z s.heap vs xs → wpAny (model c.prog c.w) A (call f vs) (fun v s' => ∃ Z', Up Z s Z' s' ∧ R Z s Z' s' v) NoE s

theorem name_builtin {x : Str} {f : Value} {p : Pos} {env : Env} {A : Around} {s : Shared} {Z : FZ} {Q : Value → Shared → Prop} (ok : CxOk c) (hx : sc.names.lookup x = some .globalImplicit) (hm : c.mg x = none) (hf : bootBuiltins x = some f) (hn : x ≠ "__name__")
    (hE : EnvOk sc env) (hb : Base c Z s) (h : Q f s) (hd : (x == ("__debug__" : Str)) = false := by decide) : wpAny (model c.prog c.w) A (eval (.Name x p) env) Q NoE s := by
  have k : ∀ b o, c.h₀.get? b = some o → s.heap.get? b = some o := fun b o e => hb.zin b o (hb.base b o e)
  refine Calls.Name_function_global (hE.scope ▸ hE.kind) (by unfold Env.kindOf; rw [hE.scope]; exact hx) ?_ hd
  exact Calls.loadGlobal_builtin (hE.glob ▸ ok.g.keeps k) hm (hE.bi ▸ ok.b.keeps k) ((ok.bi x hn).trans hf) h

theorem args_plain : ∀ {es : List Expr} {env : Env}, es.all plainE = true → (backTo pos (starEach es env)).any (·.1) = false
  | [], _, _ => rfl
  | e :: es, env, h => by
    simp only [List.all_cons, Bool.and_eq_true] at h
    rw [starEach_plain h.1]
    show (false || (backTo pos (starEach es env)).any (·.1)) = false
    rw [args_plain h.2]; rfl

/-- f(e, ..) where f is a built-in function or type, known by its name -/
theorem Ev.callB {x : Str} {p : Pos} {f : Value} {e : Expr} {es : List Expr} {xs : List V} {R : Out} (ok : CxOk c) (hx : sc.names.lookup x = some .globalImplicit) (hm : c.mg x = Option.none) (hf : bootBuiltins x = some f)
    (hk : (∃ id, f = .builtin id) ∨ ∃ T, f = .type T) (ha : EvA c k sc ρ (e :: es) xs) (hc : CallOk c f xs R) (hp : Pre R) (hpl : (e :: es).all plainE = true := by rfl) (hn : x ≠ "__name__" := by decide)
    (hd : (x == ("__debug__" : Str)) = false := by decide) : Ev c k sc ρ (.Call (.Name x p) (e :: es) [] pos) R := fun env A s Z hE hA hr => by
  refine Call_Name rfl (name_builtin ok hx hm hf hn hE hr.toBase ?_ hd)
  have key : wpAny (model c.prog c.w) A (spliced (backTo pos (starEach (e :: es) env))) (fun vs s1 => wpAny (model c.prog c.w) A (call f ([] ++ vs)) (fun v s' => ∃ Z', Up Z s Z' s' ∧ R Z s Z' s' v) NoE s1) NoE s :=
    wpAny_mono (ha pos env A s Z hE hA hr) (fun vs s1 ⟨Z1, u1, r1⟩ => wpAny_mono (hc A s1 Z1 vs (hA.mono (Nat.zero_le _)) (hr.up u1).toBase r1) (fun v s' ⟨Z', u', q⟩ => ⟨Z', u1.trans u', hp _ _ _ _ _ _ _ u1 q⟩) fun _ _ x => x) fun _ _ x => x
  have hall := hpl
  simp only [List.all_cons, Bool.and_eq_true] at hall
  have hsp := args_plain (pos := pos) (env := env) hpl
  rw [starEach_plain hall.1] at key hsp ⊢
  rcases hk with ⟨id, rfl⟩ | ⟨T, rfl⟩
  · exact Calls.callWith_builtin hsp (Calls.evalArgs_plain key)
  · exact PyProof.Rows.callWith_type hsp (Calls.evalArgs_plain key)

theorem CallOk.len {x : V} {l : List V} (h : x.items = some l) (hl : l.length ≤ 2 ^ 20) : CallOk c (.builtin "len") [x] (Is c (.int l.length)) := fun A s Z vs hA hB hv => by
  obtain ⟨v, rfl⟩ : ∃ v, vs = [v] := by
    match vs, hv with
    | [v], _ => exact ⟨v, rfl⟩
    | _ :: _ :: _, ⟨_, h⟩ => exact h.elim
  obtain ⟨a, ws, rfl, hi, al⟩ := hv.1.isList hB.zin h
  have hlen := al.length
  refine Calls.call_len_list hi (by rw [List.size_toArray]; omega) ⟨Z, Up.same hB.zin Kp.tok, ?_⟩
  rw [List.size_toArray, hlen]
  exact .imm (.int _ _)
end
end Mine
end
section
open PySem PyProof.Rows
set_option maxRecDepth 10000
set_option linter.unusedVariables false
set_option linter.unusedSimpArgs false
namespace Mine

structure Fx where
  h₀ : Heap
  Z₀ : FZ
  F : Addr → Prop
def Loc (env : Env) (a : Addr) : Prop := a = env.locals ∨ ∃ x, env.cells.lookup x = some a
def Fx.Mine (fx : Fx) (a : Addr) : Prop := fx.h₀.get? a = none ∨ fx.F a
theorem Own1.loc {env : Env} {x : Str} {a : Addr} (h : Own1 env x a) : Loc env a := h.imp id fun h => ⟨x, h.2⟩
theorem Own.loc {env : Env} {a : Addr} (h : Own env a) : Loc env a := h.imp id fun ⟨x, h⟩ => ⟨x, h.2⟩

structure St (c : Cx) (fx : Fx) (env : Env) (Z : FZ) (s : Shared) (ρ : Rho) : Prop extends Base c Z s where
  vars : Vars c env Z s.heap ρ
  run : Wr fx.F fx.h₀ s.heap
  le : FZ.Le fx.Z₀ Z
  new : ∀ a o, Z a = some o → fx.Z₀ a = none → fx.Mine a
  locZ : ∀ a, Loc env a → Z a = none
  locM : ∀ a, Loc env a → fx.Mine a
  locA : ∀ a, Loc env a → ∃ o, s.heap.get? a = some o
  feet : ∀ y W, ρ.lookup y = some W → ∀ a ∈ foot W, fx.Mine a ∧ ¬ Loc env a
  apart : ∀ x y V W, x ≠ y → ρ.lookup x = some V → ρ.lookup y = some W → ∀ a ∈ foot V, a ∉ foot W

section
variable {c : Cx} {fx : Fx} {env : Env} {Z : FZ} {s : Shared} {ρ : Rho}

theorem St.rd (h : St c fx env Z s ρ) : Rd c env Z s ρ := { toBase := h.toBase, fm := h.vars }
theorem St.fresh (h : St c fx env Z s ρ) {a : Addr} (e : s.heap.get? a = none) : fx.Mine a := by
  cases q : fx.h₀.get? a with
  | none => exact .inl q
  | some o => obtain ⟨o', e'⟩ := h.run.alive a o q; rw [e] at e'; cases e'
theorem St.footIn (h : St c fx env Z s ρ) {y : Str} {W : V} (hy : ρ.lookup y = some W) {a : Addr} (ha : a ∈ foot W) : (∃ o, s.heap.get? a = some o) ∧ Z a = none := by
  obtain ⟨m, F, hm⟩ := h.vars
  obtain ⟨v, _, r⟩ := hm y W hy (by rintro rfl; cases ha)
  exact ⟨r.footIn a ha, r.footZ a ha⟩
theorem St.up {Z' : FZ} {s' : Shared} (h : St c fx env Z s ρ) (u : Up Z s Z' s') : St c fx env Z' s' ρ :=
  { toBase := h.toBase.up u
    vars := h.vars.up u
    run := h.run.trans (Wr.ofKp u.keeps)
    le := h.le.trans u.le
    new := fun a o e f => by
      cases q : Z a with
      | some o' => exact h.new a o' q f
      | none => exact h.fresh (u.new a o e q)
    locZ := fun a ha => by
      cases q : Z' a with
      | none => rfl
      | some o =>
        obtain ⟨o', e⟩ := h.locA a ha
        rw [u.new a o q (h.locZ a ha)] at e; cases e
    locM := h.locM
    locA := fun a ha => let ⟨o, e⟩ := h.locA a ha; ⟨o, u.keeps.get a o e⟩
    feet := h.feet
    apart := h.apart }
theorem St.wr {W : Addr → Prop} {h' : Heap} {tk : Nat} {ρ' : Rho} (h : St c fx env Z s ρ) (w : Wr W s.heap h') (hW : ∀ a, W a → fx.Mine a ∧ Z a = none) (v : Vars c env Z h' ρ')
    (hf : ∀ y V, ρ'.lookup y = some V → ∀ a ∈ foot V, fx.Mine a ∧ ¬ Loc env a) (ha : ∀ x y V U, x ≠ y → ρ'.lookup x = some V → ρ'.lookup y = some U → ∀ a ∈ foot V, a ∉ foot U) : St c fx env Z { s with heap := h', toks := tk } ρ' :=
  { zin := fun a o e => w.keep a o (fun q => by rw [(hW a q).2] at e; cases e) (h.zin a o e)
    base := h.base
    gens := h.gens
    os := h.os
    drawn := h.drawn
    vars := v
    run := ⟨fun a o n e => w.keep a o (fun q => by
        rcases (hW a q).1 with q | q
        · rw [q] at e; cases e
        · exact n q) (h.run.keep a o n e), fun a o e => let ⟨o', e'⟩ := h.run.alive a o e; w.alive a o' e'⟩
    le := h.le
    new := h.new
    locZ := h.locZ
    locM := h.locM
    locA := fun a ha => let ⟨o, e⟩ := h.locA a ha; w.alive a o e
    feet := hf
    apart := ha }
theorem lookup_cons_ne {x y : Str} {V : V} {ρ : Rho} (h : y ≠ x) : List.lookup y ((x, V) :: ρ) = ρ.lookup y := by
  rw [List.lookup_cons, beq_eq_false_iff_ne.mpr h]
theorem lookup_cons_eq {x : Str} {V : V} {ρ : Rho} : List.lookup x ((x, V) :: ρ) = some V := by
  rw [List.lookup_cons, beq_self_eq_true]
theorem feet_cons {x : Str} {V : V} (hf : ∀ y W, ρ.lookup y = some W → ∀ a ∈ foot W, fx.Mine a ∧ ¬ Loc env a) (hV : ∀ a ∈ foot V, fx.Mine a ∧ ¬ Loc env a) : ∀ y W, List.lookup y ((x, V) :: ρ) = some W → ∀ a ∈ foot W, fx.Mine a ∧ ¬ Loc env a := fun y W hy => by
  by_cases hyx : y = x
  · subst hyx; rw [lookup_cons_eq] at hy; cases hy; exact hV
  · rw [lookup_cons_ne hyx] at hy; exact hf y W hy
theorem apart_cons {x : Str} {V : V} (ha : ∀ x y V W, x ≠ y → ρ.lookup x = some V → ρ.lookup y = some W → ∀ a ∈ foot V, a ∉ foot W)
    (hV : ∀ y W, y ≠ x → ρ.lookup y = some W → ∀ a ∈ foot V, a ∉ foot W) : ∀ u y U W, u ≠ y → List.lookup u ((x, V) :: ρ) = some U → List.lookup y ((x, V) :: ρ) = some W → ∀ a ∈ foot U, a ∉ foot W := fun u y U W huy hu hy a h1 h2 => by
  by_cases hux : u = x
  · subst hux
    rw [lookup_cons_eq] at hu; cases hu
    rw [lookup_cons_ne (Ne.symm huy)] at hy
    exact hV y W (Ne.symm huy) hy a h1 h2
  · rw [lookup_cons_ne hux] at hu
    by_cases hyx : y = x
    · subst hyx
      rw [lookup_cons_eq] at hy; cases hy
      exact hV u U hux hu a h2 h1
    · rw [lookup_cons_ne hyx] at hy
      exact ha u y U W huy hu hy a h1 h2
theorem apart_imm {x : Str} {V : V} (ha : ∀ x y V W, x ≠ y → ρ.lookup x = some V → ρ.lookup y = some W → ∀ a ∈ foot V, a ∉ foot W) (hV : foot V = []) :
    ∀ u y U W, u ≠ y → List.lookup u ((x, V) :: ρ) = some U → List.lookup y ((x, V) :: ρ) = some W → ∀ a ∈ foot U, a ∉ foot W := apart_cons ha fun y W _ _ a h => by rw [hV] at h; cases h
end

inductive Fl
  | nrm | brk | cnt | ret (x : V)
inductive FlR (c : Cx) (Z : FZ) : Flow → Fl → Prop
  | nrm : FlR c Z .next .nrm
  | brk : FlR c Z .brk .brk
  | cnt : FlR c Z .cont .cnt
  | ret {v x} : IRep c Z v x → FlR c Z (.ret v) (.ret x)

/-- one statement -/
def WS (c : Cx) (k : Nat) (sc : Scope) (st : Stmt) (ρ : Rho) (P : Fl → Rho → Prop) : Prop :=
  ∀ fx env A s Z, EnvOk sc env → Room k A → St c fx env Z s ρ → wpAny (model c.prog c.w) A (exec st env) (fun f s' => ∃ Z' ρ' fl, St c fx env Z' s' ρ' ∧ FlR c Z' f fl ∧ P fl ρ') NoE s
/-- a row of statements -/
def Wp (c : Cx) (k : Nat) (sc : Scope) (body : List Stmt) (ρ : Rho) (P : Fl → Rho → Prop) : Prop :=
  ∀ fx env A s Z, EnvOk sc env → Room k A → St c fx env Z s ρ → wpAny (model c.prog c.w) A (execs body env) (fun f s' => ∃ Z' ρ' fl, St c fx env Z' s' ρ' ∧ FlR c Z' f fl ∧ P fl ρ') NoE s

section
variable {c : Cx} {k : Nat} {sc : Scope} {ρ : Rho} {P : Fl → Rho → Prop} {pos : Pos}

theorem Wp.nil (h : P .nrm ρ) : Wp c k sc [] ρ P := fun fx env A s Z hE hA hs => wpAny_execs_nil ⟨Z, ρ, .nrm, hs, .nrm, h⟩
theorem Wp.cons {st : Stmt} {rest : List Stmt} {P1 : Fl → Rho → Prop} (h : WS c k sc st ρ P1) (hn : ∀ ρ', P1 .nrm ρ' → Wp c k sc rest ρ' P) (ho : ∀ fl ρ', fl ≠ .nrm → P1 fl ρ' → P fl ρ') : Wp c k sc (st :: rest) ρ P := fun fx env A s Z hE hA hs =>
  wpAny_execs_cons (wpAny_mono (h fx env A s Z hE hA hs) (fun f s' ⟨Z', ρ', fl, hs', hf, hp⟩ => by
    cases hf with
    | nrm => exact hn ρ' hp fx env A s' Z' hE hA hs'
    | brk => exact ⟨Z', ρ', _, hs', .brk, ho _ _ (by simp) hp⟩
    | cnt => exact ⟨Z', ρ', _, hs', .cnt, ho _ _ (by simp) hp⟩
    | ret r => exact ⟨Z', ρ', _, hs', .ret r, ho _ _ (by simp) hp⟩) fun _ _ x => x)
theorem WS.mono {st : Stmt} {P' : Fl → Rho → Prop} (h : WS c k sc st ρ P) (i : ∀ fl ρ', P fl ρ' → P' fl ρ') : WS c k sc st ρ P' := fun fx env A s Z hE hA hs =>
  wpAny_mono (h fx env A s Z hE hA hs) (fun f s' ⟨Z', ρ', fl, hs', hf, hp⟩ => ⟨Z', ρ', fl, hs', hf, i _ _ hp⟩) fun _ _ x => x
theorem Wp.mono {st : List Stmt} {P' : Fl → Rho → Prop} (h : Wp c k sc st ρ P) (i : ∀ fl ρ', P fl ρ' → P' fl ρ') : Wp c k sc st ρ P' := fun fx env A s Z hE hA hs =>
  wpAny_mono (h fx env A s Z hE hA hs) (fun f s' ⟨Z', ρ', fl, hs', hf, hp⟩ => ⟨Z', ρ', fl, hs', hf, i _ _ hp⟩) fun _ _ x => x

/-- ρ' says no more than ρ -/
def Sub (ρ' ρ : Rho) : Prop := ∀ x V, ρ'.lookup x = some V → ρ.lookup x = some V
theorem Sub.nil {ρ : Rho} : Sub [] ρ := fun x V h => by cases h
theorem Sub.cons {ρ' ρ : Rho} {x : Str} {V : V} (h : ρ.lookup x = some V) (t : Sub ρ' ρ) : Sub ((x, V) :: ρ') ρ := fun y W hy => by
  by_cases q : y = x
  · subst q; rw [lookup_cons_eq] at hy; cases hy; exact h
  · rw [lookup_cons_ne q] at hy; exact t y W hy
theorem Sub.refl {ρ : Rho} : Sub ρ ρ := fun _ _ h => h
theorem Sub.trans {ρ ρ' ρ'' : Rho} (h : Sub ρ ρ') (g : Sub ρ' ρ'') : Sub ρ ρ'' := fun x V e => g x V (h x V e)
theorem St.sub {fx : Fx} {env : Env} {Z : FZ} {s : Shared} {ρ ρ' : Rho} (h : St c fx env Z s ρ) (i : Sub ρ' ρ) : St c fx env Z s ρ' :=
  { h with vars := h.vars.drop fun x V e _ => i x V e, feet := fun y W e => h.feet y W (i y W e), apart := fun x y V W n e f => h.apart x y V W n (i x V e) (i y W f) }
theorem WS.sub {st : Stmt} {ρ' : Rho} (i : Sub ρ' ρ) (h : WS c k sc st ρ' P) : WS c k sc st ρ P := fun fx env A s Z hE hA hs => h fx env A s Z hE hA (hs.sub i)
theorem Wp.sub {st : List Stmt} {ρ' : Rho} (i : Sub ρ' ρ) (h : Wp c k sc st ρ' P) : Wp c k sc st ρ P := fun fx env A s Z hE hA hs => h fx env A s Z hE hA (hs.sub i)

/-- x = e, a value that does not change -/
theorem St.store {fx : Fx} {env : Env} {A : Around} {s : Shared} {Z : FZ} {x : Str} {v : Value} {V : V} {M : Model} {Q : Unit → Shared → Prop} {E : Value → Shared → Prop} (hE : EnvOk sc env) (hx : Storable sc x) (hs : St c fx env Z s ρ) (hv : Rep c Z s.heap v V)
    (hf : ∀ a ∈ foot V, fx.Mine a ∧ ¬ Loc env a) (ha : ∀ y W, y ≠ x → ρ.lookup y = some W → ∀ a ∈ foot V, a ∉ foot W)
    (hQ : ∀ h' tk, St c fx env Z { s with heap := h', toks := tk } ((x, V) :: ρ) → Wr (Own1 env x) s.heap h' → Q () { s with heap := h', toks := tk }) : wpAny M A (storeName env x v) Q E s :=
  store1 hE hx hs.vars hv hs.zin (fun a o => hs.locZ a o.loc) (fun y W hy a o ha => (hs.feet y W hy a ha).2 o.loc) (fun a o h => (hf a h).2 o.loc)
    fun h' tk vr w z => hQ h' tk (hs.wr w (fun a o => ⟨hs.locM a o.loc, hs.locZ a o.loc⟩) vr (feet_cons hs.feet hf) (apart_cons hs.apart ha)) w

theorem WS.assign {x : Str} {p : Pos} {e : Expr} {V : V} (h : Ev c k sc ρ e (Is c V)) (hf : foot V = []) (hx : Storable sc x) (hp : P .nrm ((x, V) :: ρ))
    (hsw : ∀ env, swapsWith e (some (.Name x p)) pos.line env = pure false := by intro _; rfl) : WS c k sc (.Assign [.Name x p] e pos) ρ P := fun fx env A s Z hE hA hs => by
  refine wpAny_Assign_Name (wpAny_mono (h env A s Z hE hA hs.rd) (fun v s1 ⟨Z1, u, r⟩ => ?_) fun _ _ x => x) (hsw env)
  exact St.store hE hx (hs.up u) r (fun a ha => by rw [hf] at ha; cases ha) (fun y W _ _ a ha => by rw [hf] at ha; cases ha) fun h' tk st _ => ⟨Z1, _, .nrm, st, .nrm, hp⟩

theorem WS.assignNew {x : Str} {p : Pos} {e : Expr} {l : List V} (h : Ev c k sc ρ e (New c l)) (hx : Storable sc x) (hp : ∀ a, P .nrm ((x, .list a l) :: ρ))
    (hsw : ∀ env, swapsWith e (some (.Name x p)) pos.line env = pure false := by intro _; rfl) : WS c k sc (.Assign [.Name x p] e pos) ρ P := fun fx env A s Z hE hA hs => by
  refine wpAny_Assign_Name (wpAny_mono (h env A s Z hE hA hs.rd) (fun v s1 ⟨Z1, u, a, vs, hv, hn, hz, hpl, al⟩ => ?_) fun _ _ x => x) (hsw env)
  subst hv
  have hs1 := hs.up u
  refine St.store hE hx hs1 (V := .list a l) (.list hpl hz al) (fun b hb => ?_) (fun y W _ hy b hb hb' => ?_) fun h' tk st _ => ⟨Z1, _, .nrm, st, .nrm, hp a⟩
  · simp only [foot, List.mem_singleton] at hb; subst hb
    refine ⟨hs.fresh hn, fun q => ?_⟩
    obtain ⟨o, e⟩ := hs.locA _ q; rw [hn] at e; cases e
  · simp only [foot, List.mem_singleton] at hb; subst hb
    obtain ⟨⟨o, e⟩, _⟩ := hs.footIn hy hb'; rw [hn] at e; cases e

theorem WS.ret {e : Expr} {V : V} (h : Ev c k sc ρ e (Is c V)) (hf : foot V = []) (hg : V ≠ .gone) (hp : P (.ret V) ρ) : WS c k sc (.Return (some e) pos) ρ P := fun fx env A s Z hE hA hs =>
  wpAny_Return_some (wpAny_mono (h env A s Z hE hA hs.rd) (fun v s1 ⟨Z1, u, r⟩ => ⟨Z1, ρ, .ret V, hs.up u, .ret (Rep.immOf (r := r) hf hg), hp⟩) fun _ _ x => x)
theorem WS.brk (hp : P .brk ρ) : WS c k sc (.Break pos) ρ P := fun fx env A s Z hE hA hs => wpAny_Break ⟨Z, ρ, .brk, hs, .brk, hp⟩
theorem WS.cnt (hp : P .cnt ρ) : WS c k sc (.Continue pos) ρ P := fun fx env A s Z hE hA hs => wpAny_Continue ⟨Z, ρ, .cnt, hs, .cnt, hp⟩

theorem WS.if_ {t : Expr} {b : Bool} {yes no : List Stmt} (h : Tst c k sc ρ t b) (hy : b = true → Wp c k sc yes ρ P) (hn : b = false → Wp c k sc no ρ P) : WS c k sc (.If t yes no pos) ρ P := fun fx env A s Z hE hA hs =>
  wpAny_If (wpAny_mono (h env A s Z hE hA hs.rd) (fun r s1 ⟨hr, kp⟩ => by
    subst hr
    have hs1 := hs.up (Up.same hs.zin kp)
    cases r with
    | true => exact hy rfl fx env A s1 Z hE hA hs1
    | false => exact hn rfl fx env A s1 Z hE hA hs1) fun _ _ x => x)
end
end Mine
end
section
open PySem PyProof.Rows
set_option maxRecDepth 10000
set_option linter.unusedVariables false
set_option linter.unusedSimpArgs false
namespace Mine

section
variable {c : Cx} {fx : Fx} {env : Env} {Z : FZ} {s : Shared} {ρ : Rho}

theorem St.write {x : Str} {V V' : Mine.V} {h' : Heap} {tk : Nat} (hs : St c fx env Z s ρ) (hx : ρ.lookup x = some V) (hg : V ≠ .gone) (hft : foot V' = foot V) (w : Wr (fun b => b ∈ foot V) s.heap h')
    (hr : ∀ v, Rep c Z s.heap v V → Rep c Z h' v V') : St c fx env Z { s with heap := h', toks := tk } ((x, V') :: ρ) := by
  refine hs.wr w (fun a ha => ⟨(hs.feet x V hx a ha).1, (hs.footIn hx ha).2⟩) ?_ (feet_cons hs.feet fun a ha => hs.feet x V hx a (hft ▸ ha)) (apart_cons hs.apart fun y W hy hl a ha => hs.apart x y V W (Ne.symm hy) hx hl a (hft ▸ ha))
  obtain ⟨m, F, hm⟩ := hs.vars
  have nl : ∀ a, Loc env a → a ∉ foot V := fun a ha h => (hs.feet x V hx a h).2 ha
  refine ⟨m, ⟨?_, fun y hy => ?_⟩, fun y U hy hgu => ?_⟩
  · obtain ⟨m0, ⟨o, es, ep, n, r⟩, e⟩ := F.ns
    exact ⟨m0, ⟨o, es, ep, w.keep _ o (nl _ (.inl rfl)) n, r⟩, e⟩
  · obtain ⟨a, h1, o, h2, h3⟩ := F.cell y hy
    exact ⟨a, h1, o, w.keep a o (nl a (.inr ⟨y, h1⟩)) h2, h3⟩
  · by_cases q : y = x
    · subst q
      rw [lookup_cons_eq] at hy; cases hy
      obtain ⟨v, e, r⟩ := hm y V hx hg
      exact ⟨v, e, hr v r⟩
    · rw [lookup_cons_ne q] at hy
      obtain ⟨v, e, r⟩ := hm y U hy hgu
      exact ⟨v, e, r.go (FZ.Le.refl Z) (fun a ha o e => w.keep a o (hs.apart y x U V q hy hx a ha) e) r.footZ⟩

/-- a freeze -/
theorem St.freeze {Z' : FZ} {x : Str} {V V' : Mine.V} (hs : St c fx env Z s ρ) (hx : ρ.lookup x = some V) (hg : V ≠ .gone) (hft : foot V' = []) (le : FZ.Le Z Z') (zin : ZIn Z' s.heap) (new : ∀ a o, Z' a = some o → Z a = none → a ∈ foot V)
    (hr : ∀ v, Rep c Z s.heap v V → Rep c Z' s.heap v V') : St c fx env Z' s ((x, V') :: ρ) where
  zin := zin
  base := fun a o e => le a o (hs.base a o e)
  gens := hs.gens
  os := hs.os
  drawn := hs.drawn
  vars := by
    obtain ⟨m, F, hm⟩ := hs.vars
    refine ⟨m, F, fun y U hy hgu => ?_⟩
    by_cases q : y = x
    · subst q
      rw [lookup_cons_eq] at hy; cases hy
      obtain ⟨v, e, r⟩ := hm y V hx hg
      exact ⟨v, e, hr v r⟩
    · rw [lookup_cons_ne q] at hy
      obtain ⟨v, e, r⟩ := hm y U hy hgu
      refine ⟨v, e, r.go le (fun a _ o e => e) fun a ha => ?_⟩
      cases k : Z' a with
      | none => rfl
      | some o => exact absurd (new a o k (r.footZ a ha)) (hs.apart y x U V q hy hx a ha)
  run := hs.run
  le := hs.le.trans le
  new := fun a o e f => by
    cases k : Z a with
    | some o' => exact hs.new a o' k f
    | none => exact (hs.feet x V hx a (new a o e k)).1
  locZ := fun a ha => by
    cases k : Z' a with
    | none => rfl
    | some o => exact absurd ha (hs.feet x V hx a (new a o k (hs.locZ a ha))).2
  locM := hs.locM
  locA := hs.locA
  feet := feet_cons hs.feet fun a ha => by rw [hft] at ha; cases ha
  apart := apart_imm hs.apart hft

theorem St.freezeL {x : Str} {a : Addr} {l : List V} (hs : St c fx env Z s ρ) (hx : ρ.lookup x = some (.list a l)) : ∃ Z', St c fx env Z' s ((x, .fl l) :: ρ) := by
  obtain ⟨m, F, hm⟩ := hs.vars
  obtain ⟨v, e, r⟩ := hm x _ hx (by simp)
  cases r with
  | imm r => cases r
  | @list _ vs _ p n al =>
    obtain ⟨k, p⟩ := p
    have le : FZ.Le Z (fun b => if b = a then some { cls := .type "list", data := .seq vs.toArray k } else Z b) := fun b o eb => by
      by_cases hb : b = a
      · subst hb; rw [n] at eb; cases eb
      · simp [hb, eb]
    refine ⟨_, hs.freeze hx (by simp) rfl le (fun b o eb => ?_) (fun b o eb f => ?_) fun v r => ?_⟩
    · by_cases hb : b = a
      · subst hb; simp at eb; subst eb; exact p
      · simp [hb] at eb; exact hs.zin b o eb
    · by_cases hb : b = a
      · subst hb; simp [foot]
      · simp [hb] at eb; rw [f] at eb; cases eb
    · cases r with
      | imm r => cases r
      | @list _ ws _ p' n' al' =>
        obtain ⟨k', p'⟩ := p'
        rw [p] at p'
        simp only [Option.some.injEq, Obj.mk.injEq, Data.seq.injEq, true_and, and_true] at p'
        obtain ⟨hw, hk⟩ := p'
        have : vs = ws := by simpa using hw
        subst this
        exact .imm (.fl (vs := vs) ⟨_, by simp; rfl, rfl, k, rfl⟩ (al.mono le))

theorem St.freezeD {x : Str} {a : Addr} {ks : List Int} (hs : St c fx env Z s ρ) (hx : ρ.lookup x = some (.dict a ks)) : ∃ Z', St c fx env Z' s ((x, .fd ks) :: ρ) := by
  obtain ⟨m, F, hm⟩ := hs.vars
  obtain ⟨v, e, r⟩ := hm x _ hx (by simp)
  cases r with
  | imm r => cases r
  | @dict _ _ kvs ep d hk n hsm =>
    obtain ⟨o, es, ho, hrest⟩ := id d
    have le : FZ.Le Z (fun b => if b = a then some o else Z b) := fun b o eb => by
      by_cases hb : b = a
      · subst hb; rw [n] at eb; cases eb
      · simp [hb, eb]
    refine ⟨_, hs.freeze hx (by simp) rfl le (fun b o eb => ?_) (fun b o eb f => ?_) fun v r => ?_⟩
    · by_cases hb : b = a
      · subst hb; simp at eb; subst eb; exact ho
      · simp [hb] at eb; exact hs.zin b o eb
    · by_cases hb : b = a
      · subst hb; simp [foot]
      · simp [hb] at eb; rw [f] at eb; cases eb
    · cases r with
      | imm r => cases r
      | dict d' hk' n' hsm' =>
        refine .imm (.fd ⟨kvs, ep, o, hk, by simp, fun h hh => ?_⟩ hsm)
        exact d.at' fun o' e => by rw [ho] at e; cases e; exact hh
end
end Mine
end
section
open PySem PyProof.Rows
set_option maxRecDepth 10000
set_option linter.unusedVariables false
set_option linter.unusedSimpArgs false
namespace Mine

theorem AllR.of_get {c : Cx} {Z : FZ} : ∀ {vs : List Value} {xs : List V}, vs.length = xs.length → (∀ (i : Nat) v x, vs[i]? = some v → xs[i]? = some x → IRep c Z v x) → AllR c Z vs xs
  | [], [], _, _ => .nil
  | v :: vs, x :: xs, hl, h => .cons (h 0 v x rfl rfl) (AllR.of_get (by simpa using hl) fun i v x h1 h2 => h (i + 1) v x (by simpa using h1) (by simpa using h2))
  | [], _ :: _, hl, _ => by simp at hl
  | _ :: _, [], hl, _ => by simp at hl
theorem AllR.bools {c : Cx} {Z : FZ} : ∀ (bs : List Bool), AllR c Z (bs.map Value.bool) (bs.map V.bool)
  | [] => .nil
  | b :: r => .cons (.bool b) (AllR.bools r)
def rowsV (rows : List (List Bool)) : List V := rows.map fun r => V.fl (r.map V.bool)

section
variable {c : Cx} {fx : Fx} {env : Env} {Z : FZ} {s : Shared} {ρ : Rho}
open Classical in
theorem St.freezeM {x : Str} {a : Addr} {rs : List Addr} {rows : List (List Bool)} (hs : St c fx env Z s ρ) (hx : ρ.lookup x = some (.mat a rs rows)) : ∃ Z', St c fx env Z' s ((x, .fl (rowsV rows)) :: ρ) := by
  have fz : ∀ b ∈ foot (.mat a rs rows), Z b = none := fun b hb => (hs.footIn hx hb).2
  have le : FZ.Le Z (fun b => if b ∈ foot (.mat a rs rows) then s.heap.get? b else Z b) := fun b o eb => by
    by_cases hb : b ∈ foot (.mat a rs rows)
    · rw [fz b hb] at eb; cases eb
    · simp [hb, eb]
  refine ⟨_, hs.freeze hx (by simp) rfl le (fun b o eb => ?_) (fun b o eb f => ?_) fun v r => ?_⟩
  · by_cases hb : b ∈ foot (.mat a rs rows)
    · simpa [hb] using eb
    · simp [hb] at eb; exact hs.zin b o eb
  · by_cases hb : b ∈ foot (.mat a rs rows)
    · exact hb
    · simp [hb] at eb; rw [f] at eb; cases eb
  · cases r with
    | imm r => cases r
    | mat p n l nd rw' =>
      have sq : ∀ b vs, b ∈ foot (.mat a rs rows) → s.heap.PlainList b vs → IsSeq (fun b => if b ∈ foot (.mat a rs rows) then s.heap.get? b else Z b) "list" b vs.toList := fun b vs hb ⟨k, hp⟩ => ⟨_, by simp [hb]; exact hp, rfl, k, by simp⟩
      refine .imm (.fl (vs := rs.map Value.ref) (by simpa using sq a _ (by simp [foot]) p) (AllR.of_get (by simp [rowsV, l]) fun i v x h1 h2 => ?_))
      rw [List.getElem?_map] at h1
      rw [rowsV, List.getElem?_map] at h2
      cases e1 : rs[i]? with
      | none => rw [e1] at h1; cases h1
      | some r =>
        cases e2 : rows[i]? with
        | none => rw [e2] at h2; cases h2
        | some bs =>
          rw [e1] at h1; rw [e2] at h2
          cases h1; cases h2
          exact .fl (vs := bs.map Value.bool) (by simpa using sq r _ (List.mem_cons_of_mem _ (List.mem_of_getElem? e1)) (rw' i r bs e1 e2).1) (AllR.bools bs)
end

section
variable {c : Cx} {k : Nat} {sc : Scope} {ρ : Rho} {P : Fl → Rho → Prop} {pos : Pos}
theorem Wp.freezeL {st : List Stmt} {x : Str} {a : Addr} {l : List V} (hx : ρ.lookup x = some (.list a l)) (h : Wp c k sc st ((x, .fl l) :: ρ) P) : Wp c k sc st ρ P := fun fx env A s Z hE hA hs => let ⟨Z', hs'⟩ := hs.freezeL hx; h fx env A s Z' hE hA hs'
theorem Wp.freezeD {st : List Stmt} {x : Str} {a : Addr} {ks : List Int} (hx : ρ.lookup x = some (.dict a ks)) (h : Wp c k sc st ((x, .fd ks) :: ρ) P) : Wp c k sc st ρ P := fun fx env A s Z hE hA hs => let ⟨Z', hs'⟩ := hs.freezeD hx; h fx env A s Z' hE hA hs'
theorem Wp.freezeM {st : List Stmt} {x : Str} {a : Addr} {rs : List Addr} {rows : List (List Bool)} (hx : ρ.lookup x = some (.mat a rs rows)) (h : Wp c k sc st ((x, .fl (rowsV rows)) :: ρ) P) : Wp c k sc st ρ P := fun fx env A s Z hE hA hs => let ⟨Z', hs'⟩ := hs.freezeM hx; h fx env A s Z' hE hA hs'

theorem Wr.sameBut {a : Addr} {h h' : Heap} (sb : Heap.SameBut a h h') (al : ∃ o, h'.get? a = some o) : Wr (fun b => b ∈ [a]) h h' := ⟨fun b o n e => (sb.2 b (by simpa using n)).trans e, fun b o e => by
  by_cases q : b = a
  · subst q; exact al
  · exact ⟨o, (sb.2 b q).trans e⟩⟩

theorem list_inv {Z : FZ} {h : Heap} {v : Value} {a : Addr} {l : List V} (r : Rep c Z h v (.list a l)) : ∃ vs : List Value, v = .ref a ∧ h.PlainList a vs.toArray ∧ Z a = Option.none ∧ AllR c Z vs l := by
  cases r with
  | imm r => cases r
  | list p n al => exact ⟨_, rfl, p, n, al⟩

/-- a list's write, from the reps at the time of the write -/
theorem St.setL {fx : Fx} {env : Env} {Z : FZ} {s : Shared} {x : Str} {a : Addr} {l l' : List V} {h' : Heap} {tk : Nat} {vs' : List Value} (hs : St c fx env Z s ρ) (hx : ρ.lookup x = some (.list a l)) (sb : Heap.SameBut a s.heap h') (hp : h'.PlainList a vs'.toArray)
    (hal : AllR c Z vs' l') : St c fx env Z { s with heap := h', toks := tk } ((x, .list a l') :: ρ) :=
  hs.write hx (by simp) rfl (Wr.sameBut sb (let ⟨n, e⟩ := hp; ⟨_, e⟩)) fun v r => by
    obtain ⟨vs, rfl, p, n, al⟩ := list_inv r
    exact .list hp n hal

theorem wpAny_setItem_plain {prog : Program} {w : World} {A : Around} {E : Value → Shared → Prop} {s : Shared} {l : Addr} {items : Array Value} {k : Int} {t : Tok} {v : Value} {Q : Unit → Shared → Prop} (hl : s.heap.PlainList l items)
    (h0 : 0 ≤ k) (hfit : k < 2 ^ 63) (hn : k < items.size)
    (hQ : ∀ h', h'.PlainList l (items.setIfInBounds k.toNat v) → Heap.SameBut l s.heap h' → Q () { s with heap := h' }) :
    wpAny (model prog w) A (setItem (.ref l) (.int k t) v) Q E s := by
  obtain ⟨n, ho⟩ := id hl
  have hT := hl.isList.typeIs
  unfold setItem
  try with_reducible refine wpAny_holding ?_
  first | refine wpAny_bind (wpAny_pure ?_) | skip
  refine wpAny_bind (wpAny_sequenceKey hT (by decide) ?_)
  refine wpAny_bind (wpAny_callSpecial?_slot (name := Str.ofString "__setitem__") hT slot_list_setitem
    (wpAny_call_entry slot_list_setitem hT entry_list_setitem ?_ (args_list_setitem _ _ _)))
  show wpAny _ _ (Builtin.List.listSubscript? (.int k t) >>= _) _ _ s
  refine wpAny_bind (wpAny_listSubscript_int (fitsIndex_of h0 hfit) ?_)
  clear hfit
  obtain ⟨j, rfl⟩ := Int.eq_ofNat_of_zero_le h0
  have hj : j < items.size := by omega
  have hx' : items[j]? = some items[j] := Array.getElem?_eq_getElem hj
  show wpAny _ _ ((seqItemAt l j >>= fun r => pure (r.map (j, ·))) >>= _) _ _ s
  refine wpAny_bind (wpAny_bind (wpAny_seqItemAt ho rfl (wpAny_pure ?_)))
  rw [hx']
  show wpAny _ _ (setSeqItemAt l j v >>= _) _ _ s
  have hfin : (s.heap.update l (Obj.mapSeq (·.setIfInBounds j v))).PlainList l (items.setIfInBounds j v) := ⟨_, by
    rw [Heap.get?_update_self _ ho rfl]; rfl⟩
  refine wpAny_bind (wpAny_setSeqItemAt ho rfl ?_)
  first
    | exact wpAny_bind (wpAny_pure (wpAny_pure ⟨.none, rfl, wpAny_pure (hQ _ hfin (Heap.SameBut.update ..))⟩))
    | exact wpAny_pure ⟨.none, rfl, wpAny_pure (hQ _ hfin (Heap.SameBut.update ..))⟩

/-- x[i] = e -/
theorem WS.setL {x : Str} {p1 p2 : Pos} {i e : Expr} {a : Addr} {l : List V} {n : Nat} {j : Int} {y : V} (hx : ρ.lookup x = some (.list a l)) (hk : sc.names.lookup x = some .local ∨ sc.names.lookup x = some .cell)
    (he : Ev c k sc ρ e (Is c y)) (hi : Ev c k sc ρ i (Is c (.int j))) (hj : j = (n : Int)) (hn : n < l.length) (hl : l.length ≤ 2 ^ 20) (hy : foot y = []) (hg : y ≠ .gone) (hp : P .nrm ((x, .list a (l.set n y)) :: ρ))
    (hs : ∀ env, swapsWith e (some (.Subscript (.Name x p1) i p2)) pos.line env = pure false := by intro _; rfl)
    (hd : (x == ("__debug__" : Str)) = false := by decide) (hcd : (x == ("__classdict__" : Str)) = false := by decide) : WS c k sc (.Assign [.Subscript (.Name x p1) i p2] e pos) ρ P := fun fx env A s Z hE hA st => by
  refine wpAny_Assign_Subscript (wpAny_mono (he env A s Z hE hA st.rd) (fun v s1 ⟨Z1, u1, r1⟩ => ?_) fun _ _ x => x) (hs env)
  have st1 := st.up u1
  refine wpAny_mono (Ev.name hx (hk.imp id .inl) (by simp) hd hcd env A s1 Z1 hE hA st1.rd) (fun o s2 ⟨Z2, u2, r2⟩ => ?_) fun _ _ x => x
  have st2 := st1.up u2
  refine wpAny_mono (hi env A s2 Z2 hE hA st2.rd) (fun iv s3 ⟨Z3, u3, r3⟩ => ?_) fun _ _ x => x
  have st3 := st2.up u3
  have r2' := r2.up u3
  have r1' := (r1.up u2).up u3
  obtain ⟨vs, rfl, p, nz, al⟩ := list_inv r2'
  obtain ⟨t, rfl⟩ := int_inv r3
  have hlen := al.length
  subst hj
  refine wpAny_setItem_plain p (by omega) (by omega) (by rw [List.size_toArray]; omega) fun h' hp' sb => ?_
  refine ⟨Z3, _, .nrm, st3.setL (vs' := vs.set n v) hx sb (by simpa using hp') (al.set (Rep.immOf (r := r1') hy hg) n), .nrm, hp⟩

/-- a method of a list of our own, with one argument, for its effect -/
theorem WS.meth1 {x : Str} {p1 p2 p3 : Pos} {e : Expr} {a : Addr} {l l' : List V} {y : V} {name : Str} {id : String} (hx : ρ.lookup x = some (.list a l)) (hk : sc.names.lookup x = some .local ∨ sc.names.lookup x = some .cell)
    (slot : Slot "list" name id) (hty : typeOf (.builtin id) = pure (.type "method_descriptor")) (he : Ev c k sc ρ e (Is c y)) (hline : (p2.endLine == p3.line) = true)
    (hc : ∀ A s Z vs v n, Room 0 A → Base c Z s → s.heap.get? a = some { cls := .type "list", data := .seq (List.toArray vs) n } → AllR c Z vs l → Rep c Z s.heap v y → wpAny (model c.prog c.w) A (call (.builtin id) [.ref a, v]) (fun r s' => r = .none ∧
      ∃ h' tk vs', s' = { s with heap := h', toks := tk } ∧ Heap.SameBut a s.heap h' ∧ h'.PlainList a (List.toArray vs') ∧ AllR c Z vs' l') NoE s)
    (hp : P .nrm ((x, .list a l') :: ρ)) (hpl : plainE e = true := by rfl)
    (hbase : ∀ env, attributeBase (.Name x p1) name env (eval (.Name x p1) env) = eval (.Name x p1) env := by intro _; rfl)
    (hsw : ∀ env, swapsWith (.Call (.Attribute (.Name x p1) name p2) [e] [] p3) none pos.line env = pure false := by intro _; rfl)
    (hd : (x == ("__debug__" : Str)) = false := by decide) (hcd : (x == ("__classdict__" : Str)) = false := by decide) : WS c k sc (.Expr (.Call (.Attribute (.Name x p1) name p2) [e] [] p3) pos) ρ P := fun fx env A s Z hE hA st => by
  refine wpAny_Expr ?_ (by unfold interactive; rw [hE.scope, hE.kind]; rfl) (hsw env)
  refine Call_method1 (hbase env) (starEach_plain hpl) hline ?_
  refine wpAny_mono (Ev.name hx (hk.imp (fun q => q) .inl) (by simp) hd hcd env A s Z hE hA st.rd) (fun o s2 ⟨Z2, u2, r2⟩ => ?_) fun _ _ x => x
  have st2 := st.up u2
  obtain ⟨vs, rfl, p, nz, al⟩ := list_inv r2
  have p' := p
  obtain ⟨n, ho⟩ := p'
  refine ⟨"list", id, PySem.F.plainAttrs_list, slot, hty, ⟨_, ho, rfl⟩, fun a e => by cases e; exact ⟨_, ho, rfl⟩, ?_⟩
  refine Calls.callWith_builtin (by rfl) (Calls.evalArgs_plain (Calls.spliced_cons (wpAny_mono (he env A s2 Z2 hE hA st2.rd) (fun v s3 ⟨Z3, u3, r3⟩ => Calls.spliced_nil ?_) fun _ _ x => x)))
  have st3 := st2.up u3
  refine wpAny_mono (hc A s3 Z3 vs v n (hA.mono (Nat.zero_le _)) st3.toBase (u3.keeps.get _ _ ho) (al.mono u3.le) r3) (fun r s' ⟨hr, h', tk, vs', hs', sb, hp', al'⟩ => ?_) fun _ _ x => x
  subst hr; subst hs'
  exact ⟨Z3, _, .nrm, st3.setL hx sb hp' al', .nrm, hp⟩
end
end Mine
end
section
open PySem PyProof.Rows
set_option maxRecDepth 10000
set_option linter.unusedVariables false
set_option linter.unusedSimpArgs false
namespace Mine
section
open SeqAt PySem.MeetsSeq
open PySem.MeetsSeq2 PySem.MeetsSeq3 PySem.SeqRoads2
theorem remove_loopAt (l : Addr) (items : Array Value) (n : Nat) (x : Value) (e : Nat → Bool) (j : Nat) (hj : j < items.size) (hit : e j = true) (k : Nat) (hs1 : items.size ≤ sizeLine) :
    ∀ i : Nat, j - i = k → i ≤ j → (∀ m (hm : m < items.size), i ≤ m → m < j → e m = false) → Meets (Builtin.«list.remove.loop» ⟨[.ref l, x, rawInt i], []⟩)
      (fun A R s => s.heap.get? l = some { cls := .type "list", dict := none, data := .seq items n, slots := #[] } ∧ (∀ m (hm : m < items.size), EqAt A.in1 s items[m] x (e m)) ∧ R (.ok (.ret .none)) { s with heap := s.heap.update l (Obj.mapSeq fun xs => xs.eraseIdxIfInBounds j) }) := by
  induction k with
  | zero =>
    intro i hk hij hno prog w A R s h
    obtain ⟨hp, g, d, tk, os⟩ := s; obtain ⟨hl, he, h⟩ := h
    have hij' : i = j := by omega
    subst hij'
    wp_walk using wpAny_loadPart' hl
    have hi : items[((i : Nat) : Int).toNat]? = some items[i] := by simp [hj]
    rw [hi]
    refine wpAny_bind (he _ hj prog w _ _ ?_)
    rw [hit]
    have hz' : (items.eraseIdxIfInBounds i).size ≤ sizeLine + 1 := Nat.le_trans (size_erased items _) (Nat.le_succ_of_le hs1)
    wp_walk using (wpAny_updateSeq hl rfl (hz := hs1) (_hz' := hz')), wpAny_loadPart' hl
    simpa using h
  | succ k ih =>
    intro i hk hij hno prog w A R s h
    obtain ⟨hp, g, d, tk, os⟩ := s; obtain ⟨hl, he, h⟩ := h
    have hlt : i < items.size := by omega
    wp_walk using wpAny_loadPart' hl
    have hi : items[((i : Nat) : Int).toNat]? = some items[i] := by simp [hlt]
    have hc : ((i : Int) + 1) = ((i + 1 : Nat) : Int) := by push_cast; rfl
    rw [hi]
    refine wpAny_bind (he _ hlt prog w _ _ ?_)
    rw [hno i hlt (Nat.le_refl _) (by omega)]
    wp_walk
    rw [hc]
    exact ⟨plainId_quiet plain_remove_loop _, codeAny_builtin entry_remove_loop (by
      rw [Around.under_plainId plain_remove_loop _]
      exact ih (i + 1) (by omega) (by omega) (fun m hm h1 h2 => hno m hm (by omega) h2) prog w A R _ ⟨hl, he, h⟩)⟩

theorem list_removeAt (l : Addr) (items : Array Value) (n : Nat) (x : Value) (e : Nat → Bool) (j : Nat) (hj : j < items.size)
    (hit : e j = true) (hno : ∀ m (hm : m < items.size), m < j → e m = false) (hs1 : items.size ≤ sizeLine := by size_fits) :
    Meets (Builtin.«list.remove» ⟨[.ref l, x], []⟩)
      (fun A R s => s.heap.get? l = some { cls := .type "list", dict := none, data := .seq items n, slots := #[] } ∧ (∀ m (hm : m < items.size), EqAt A.in1 s items[m] x (e m)) ∧ R (.ok (.ret .none)) { s with heap := s.heap.update l (Obj.mapSeq fun xs => xs.eraseIdxIfInBounds j) }) := by
  intro prog w A R s h
  obtain ⟨hp, g, d, tk, os⟩ := s; obtain ⟨hl, he, h⟩ := h
  wp_walk using wpAny_loadPart' hl
  exact ⟨plainId_quiet plain_remove_loop _, codeAny_builtin entry_remove_loop (by
    rw [Around.under_plainId plain_remove_loop _]
    exact remove_loopAt l items n x e j hj hit _ hs1 0 rfl (Nat.zero_le _) (fun m hm _ h2 => hno m hm h2) prog w A R _ ⟨hl, he, h⟩)⟩
end
section
variable {c : Cx} {k : Nat} {sc : Scope} {ρ : Rho} {P : Fl → Rho → Prop} {pos : Pos}

/-- x.append(e) -/
theorem WS.append {x : Str} {p1 p2 p3 : Pos} {e : Expr} {a : Addr} {l : List V} {y : V} (hx : ρ.lookup x = some (.list a l)) (hk : sc.names.lookup x = some .local ∨ sc.names.lookup x = some .cell)
    (he : Ev c k sc ρ e (Is c y)) (hy : foot y = []) (hg : y ≠ .gone) (hl : l.length ≤ 2 ^ 20) (hp : P .nrm ((x, .list a (l ++ [y])) :: ρ)) (hline : (p2.endLine == p3.line) = true := by rfl) (hpl : plainE e = true := by rfl)
    (hbase : ∀ env, attributeBase (.Name x p1) "append" env (eval (.Name x p1) env) = eval (.Name x p1) env := by intro _; rfl)
    (hsw : ∀ env, swapsWith (.Call (.Attribute (.Name x p1) "append" p2) [e] [] p3) Option.none pos.line env = pure false := by intro _; rfl)
    (hd : (x == ("__debug__" : Str)) = false := by decide) (hcd : (x == ("__classdict__" : Str)) = false := by decide) : WS c k sc (.Expr (.Call (.Attribute (.Name x p1) "append" p2) [e] [] p3) pos) ρ P := by
  refine WS.meth1 (id := "list.append") (l' := l ++ [y]) hx hk slot_list_append type_list_append he hline (fun A s Z vs v n hA hB ho al hv => ?_) hp hpl hbase hsw hd hcd
  refine wpAny_list_append_plain ⟨n, ho⟩ (fun h' hp' sb => ⟨rfl, h', s.toks, vs ++ [v], rfl, sb, by simpa using hp', al.append (.cons (Rep.immOf (r := hv) hy hg) .nil)⟩) ?_
  rw [List.size_toArray, al.length, sizeLine_eq]; omega

theorem AllR.eraseIdx {Z : FZ} : ∀ {vs : List Value} {xs : List V}, AllR c Z vs xs → ∀ i, AllR c Z (vs.eraseIdx i) (xs.eraseIdx i)
  | _, _, .nil, i => by simpa using AllR.nil
  | _, _, .cons a b, 0 => by simpa using b
  | _, _, .cons a b, i + 1 => by simpa using AllR.cons a (AllR.eraseIdx b i)
theorem AllR.dropLast {Z : FZ} {vs : List Value} {xs : List V} (h : AllR c Z vs xs) : AllR c Z vs.dropLast xs.dropLast := by
  rw [← List.eraseIdx_length_sub_one, ← List.eraseIdx_length_sub_one, h.length]
  exact h.eraseIdx _

def vEqB (x y : V) : Bool := (vEq x y).getD false

/-- x.remove(e), where it is there -/
theorem WS.remove {x : Str} {p1 p2 p3 : Pos} {e : Expr} {a : Addr} {l : List V} {y : V} {j : Nat} (hx : ρ.lookup x = some (.list a l)) (hk : sc.names.lookup x = some .local ∨ sc.names.lookup x = some .cell)
    (he : Ev c k sc ρ e (Is c y)) (hy : foot y = []) (hg : y ≠ .gone) (hl : l.length ≤ 2 ^ 20) (heq : ∀ z ∈ l, ∃ b, vEq z y = some b) (hj : ∃ z, l[j]? = some z ∧ vEq z y = some true) (hno : ∀ m < j, ∀ z, l[m]? = some z → vEq z y = some false)
    (hp : P .nrm ((x, .list a (l.eraseIdx j)) :: ρ)) (hline : (p2.endLine == p3.line) = true := by rfl) (hpl : plainE e = true := by rfl)
    (hbase : ∀ env, attributeBase (.Name x p1) "remove" env (eval (.Name x p1) env) = eval (.Name x p1) env := by intro _; rfl)
    (hsw : ∀ env, swapsWith (.Call (.Attribute (.Name x p1) "remove" p2) [e] [] p3) Option.none pos.line env = pure false := by intro _; rfl)
    (hd : (x == ("__debug__" : Str)) = false := by decide) (hcd : (x == ("__classdict__" : Str)) = false := by decide) : WS c k sc (.Expr (.Call (.Attribute (.Name x p1) "remove" p2) [e] [] p3) pos) ρ P := by
  refine WS.meth1 (id := "list.remove") (l' := l.eraseIdx j) hx hk PySem.F.slot_list_remove PySem.F.type_list_remove he hline (fun A s Z vs v n hA hB ho al hv => ?_) hp hpl hbase hsw hd hcd
  have hiv := Rep.immOf (r := hv) hy hg
  obtain ⟨z, hz, hzt⟩ := hj
  obtain ⟨vz, hvz, rz⟩ := al.get j z hz
  have hlen := al.length
  have hjl : j < vs.length := (List.getElem?_eq_some_iff.mp hvz).1
  have hev : ∀ m (hm : m < vs.length), SeqAt.EqAt A.in1 s vs[m] v (vEqB (l[m]'(by omega)) y) := fun m hm => by
    obtain ⟨v1, e1, r1⟩ := al.get m (l[m]'(by omega)) (by simp)
    have : vs[m] = v1 := by
      have := (List.getElem?_eq_some_iff.mp e1).2; exact this
    rw [this]
    obtain ⟨b, hb⟩ := heq (l[m]'(by omega)) (List.getElem_mem _)
    have := eqAt_V (A := A.in1) hB.zin r1 hiv (by have := hA.u8; have := hA.2.2; show A.units + 1 + 8 < cLine; unfold cLine; omega) hb
    unfold vEqB
    rw [hb]; exact this
  refine call_meets PySem.F.slot_list_remove ⟨_, ho, rfl⟩ PySem.F.entry_list_remove (PySem.F.args_list_remove_2 _ _)
    (list_removeAt a vs.toArray n v (fun m => if h : m < l.length then vEqB l[m] y else false) j (by simpa using hjl) ?_ (fun m hm hmj => ?_) (by rw [List.size_toArray, sizeLine_eq]; omega))
    ⟨ho, fun m hm => ?_, rfl, _, s.toks, vs.eraseIdx j, rfl, Heap.SameBut.update .., ⟨n + 1, ?_⟩, al.eraseIdx j⟩
  · have hjl' : j < l.length := by omega
    simp only [hjl', dite_true]
    have : l[j] = z := by have := (List.getElem?_eq_some_iff.mp hz).2; exact this
    rw [this]; unfold vEqB; rw [hzt]; rfl
  · have hml : m < l.length := by omega
    simp only [hml, dite_true]
    unfold vEqB
    rw [hno m hmj l[m] (by simp)]; rfl
  · have hm' : m < vs.length := by simpa using hm
    have hml : m < l.length := by omega
    simp only [hml, dite_true]
    simpa using hev m hm'
  · rw [Heap.get?_update_self _ ho rfl]
    have e1 : vs.toArray.eraseIdxIfInBounds j = (vs.eraseIdx j).toArray := by
      apply Array.toList_inj.mp; simp [Array.toList_eraseIdxIfInBounds]
    have e2 : ((vs.eraseIdx j).toArray.size == vs.toArray.size) = false := by
      rw [List.size_toArray, List.size_toArray, List.length_eraseIdx_of_lt hjl]
      simp; omega
    simp only [Obj.mapSeq, e1, e2]
    simp
end
end Mine
end
section
open PySem PyProof.Rows
set_option maxRecDepth 10000
set_option linter.unusedVariables false
set_option linter.unusedSimpArgs false
namespace Mine
section
variable {c : Cx} {k : Nat} {sc : Scope} {ρ : Rho} {P : Fl → Rho → Prop} {pos : Pos}

/-- y = x.pop() -/
theorem WS.pop {x y : Str} {p0 p1 p2 p3 : Pos} {a : Addr} {l : List V} {z : V} (hx : ρ.lookup x = some (.list a (l ++ [z]))) (hk : sc.names.lookup x = some .local ∨ sc.names.lookup x = some .cell) (hz : foot z = []) (hst : Storable sc y)
    (hl : l.length ≤ 2 ^ 19) (hp : P .nrm ((y, z) :: (x, .list a l) :: ρ)) (hline : (p2.endLine == p3.line) = true := by rfl)
    (hbase : ∀ env, attributeBase (.Name x p1) "pop" env (eval (.Name x p1) env) = eval (.Name x p1) env := by intro _; rfl)
    (hsw : ∀ env, swapsWith (.Call (.Attribute (.Name x p1) "pop" p2) [] [] p3) (some (.Name y p0)) pos.line env = pure false := by intro _; rfl)
    (hd : (x == ("__debug__" : Str)) = false := by decide) (hcd : (x == ("__classdict__" : Str)) = false := by decide) : WS c k sc (.Assign [.Name y p0] (.Call (.Attribute (.Name x p1) "pop" p2) [] [] p3) pos) ρ P := fun fx env A s Z hE hA st => by
  refine wpAny_Assign_Name ?_ (hsw env)
  refine Call_method0 (hbase env) hline ?_
  refine wpAny_mono (Ev.name hx (hk.imp (fun q => q) .inl) (by simp) hd hcd env A s Z hE hA st.rd) (fun o s2 ⟨Z2, u2, r2⟩ => ?_) fun _ _ x => x
  have st2 := st.up u2
  obtain ⟨vs, rfl, p, nz, al⟩ := list_inv r2
  have p' := p
  obtain ⟨n, ho⟩ := p'
  have hlen := al.length
  rw [List.length_append, List.length_singleton] at hlen
  obtain ⟨v, hv, rv⟩ := al.get l.length z (by simp)
  refine ⟨"list", "list.pop", PySem.F.plainAttrs_list, PySem.F.slot_list_pop, PySem.F.type_list_pop, ⟨_, ho, rfl⟩, fun a e => by cases e; exact ⟨_, ho, rfl⟩, ?_⟩
  refine PySem.P.pop_list (y := v) ho (by rw [List.size_toArray, hlen]; simpa using hv) ?_ (by rw [List.size_toArray, sizeLine_eq]; omega)
  have hdl : vs.toArray.eraseIdxIfInBounds (vs.toArray.size - 1) = (vs.eraseIdx l.length).toArray := by
    apply Array.toList_inj.mp; simp [Array.toList_eraseIdxIfInBounds, hlen]
  have hel : (l ++ [z]).eraseIdx l.length = l := by
    rw [List.eraseIdx_append_of_length_le (Nat.le_refl _)]; simp
  have hp2 : (s2.heap.update a (Obj.mapSeq fun xs => xs.eraseIdxIfInBounds (vs.toArray.size - 1))).PlainList a (vs.eraseIdx l.length).toArray := by
    refine ⟨n + 1, ?_⟩
    rw [Heap.get?_update_self _ ho rfl]
    have e2 : ((vs.eraseIdx l.length).toArray.size == vs.toArray.size) = false := by
      rw [List.size_toArray, List.size_toArray, List.length_eraseIdx_of_lt (by omega)]
      simp; omega
    simp only [Obj.mapSeq, hdl, e2]
    simp
  have al2 : AllR c Z2 (vs.eraseIdx l.length) l := by
    have := al.eraseIdx l.length
    rwa [hel] at this
  have st3 : St c fx env Z2 { s2 with heap := s2.heap.update a (Obj.mapSeq fun xs => xs.eraseIdxIfInBounds (vs.toArray.size - 1)), toks := s2.toks } ((x, .list a l) :: ρ) := st2.setL hx (Heap.SameBut.update ..) hp2 al2
  exact St.store (V := z) hE hst st3 (.imm rv) (fun a ha => by rw [hz] at ha; cases ha) (fun y W _ _ a ha => by rw [hz] at ha; cases ha) fun h' tk st4 _ => ⟨Z2, _, .nrm, st4, .nrm, hp⟩

theorem mat_inv {Z : FZ} {h : Heap} {v : Value} {a : Addr} {rs : List Addr} {rows : List (List Bool)} (r : Rep c Z h v (.mat a rs rows)) : v = .ref a ∧ h.PlainList a (rs.map Value.ref).toArray ∧ Z a = Option.none ∧ rs.length = rows.length ∧ (a :: rs).Nodup ∧
      (∀ (i : Nat) (r : Addr) (bs : List Bool), rs[i]? = some r → rows[i]? = some bs → h.PlainList r (bs.map Value.bool).toArray ∧ Z r = Option.none) := by
  cases r with
  | imm r => cases r
  | mat p n l nd rw' => exact ⟨rfl, p, n, l, nd, rw'⟩

/-- x[i][j] = e -/
theorem WS.setM {x : Str} {p1 p2 p3 : Pos} {i j e : Expr} {a : Addr} {rs : List Addr} {rows : List (List Bool)} {n m : Nat} {ni mi : Int} {b : Bool} (hx : ρ.lookup x = some (.mat a rs rows)) (hk : sc.names.lookup x = some .local ∨ sc.names.lookup x = some .cell)
    (he : Ev c k sc ρ e (Is c (.bool b))) (hi : Ev c k sc ρ i (Is c (.int ni))) (hj : Ev c k sc ρ j (Is c (.int mi))) (hni : ni = (n : Int)) (hmi : mi = (m : Int)) {row : List Bool} (hrow : rows[n]? = some row) (hm : m < row.length) (hl : rows.length ≤ 2 ^ 20) (hl' : row.length ≤ 2 ^ 20)
    (hp : P .nrm ((x, .mat a rs (rows.set n (row.set m b))) :: ρ))
    (hs : ∀ env, swapsWith e (some (.Subscript (.Subscript (.Name x p1) i p2) j p3)) pos.line env = pure false := by intro _; rfl)
    (hsl : ∀ o v, subscripted i false o v = operate [o, v] (getItem o v) := by intro _ _; rfl)
    (hd : (x == ("__debug__" : Str)) = false := by decide) (hcd : (x == ("__classdict__" : Str)) = false := by decide) : WS c k sc (.Assign [.Subscript (.Subscript (.Name x p1) i p2) j p3] e pos) ρ P := fun fx env A s Z hE hA st => by
  refine wpAny_Assign_Subscript (wpAny_mono (he env A s Z hE hA st.rd) (fun v s1 ⟨Z1, u1, r1⟩ => ?_) fun _ _ x => x) (hs env)
  have st1 := st.up u1
  obtain rfl := bool_inv r1
  refine Subscript_ ?_
  refine wpAny_mono (Ev.name hx (hk.imp id .inl) (by simp) hd hcd env A s1 Z1 hE hA st1.rd) (fun o s2 ⟨Z2, u2, r2⟩ => ?_) fun _ _ x => x
  have st2 := st1.up u2
  refine wpAny_mono (hi env A s2 Z2 hE hA st2.rd) (fun iv s3 ⟨Z3, u3, r3⟩ => ?_) fun _ _ x => x
  have st3 := st2.up u3
  obtain ⟨rfl, p, nz, hlen, nd, hrw⟩ := mat_inv (r2.up u3)
  obtain ⟨t, rfl⟩ := int_inv r3
  have hn : n < rows.length := (List.getElem?_eq_some_iff.mp hrow).1
  obtain ⟨r, hr⟩ : ∃ r, rs[n]? = some r := ⟨rs[n]'(by omega), by simp⟩
  subst hni hmi
  refine tail_any p.isList.typeIs slot_list_getitem.lookup (wpAny_getItem_list p.isList (by omega) (by omega) (x := .ref r) (by simp [hr]) ?_) (hsl _ _)
  refine wpAny_mono (hj env A s3 Z3 hE hA st3.rd) (fun jv s4 ⟨Z4, u4, r4⟩ => ?_) fun _ _ x => x
  have st4 := st3.up u4
  obtain ⟨t', rfl⟩ := int_inv r4
  obtain ⟨_, p4, nz4, _, _, hrw4⟩ := mat_inv ((r2.up u3).up u4)
  have hpr := (hrw4 n r row hr hrow).1
  refine wpAny_setItem_plain hpr (by omega) (by omega) (by simp; omega) fun h' hp' sb => ?_
  have hra : r ∈ rs := List.mem_of_getElem? hr
  have har : a ≠ r := fun q => (List.nodup_cons.mp nd).1 (q ▸ hra)
  refine ⟨Z4, _, .nrm, st4.write (V' := .mat a rs (rows.set n (row.set m b))) (tk := s4.toks) hx (by simp) rfl ⟨fun b' o nb e => (sb.2 b' (fun q => nb (q ▸ List.mem_cons_of_mem _ hra))).trans e, fun b' o e => ?_⟩ (fun v rv => ?_), .nrm, hp⟩
  · by_cases q : b' = r
    · subst q; obtain ⟨n', e'⟩ := hp'; exact ⟨_, e'⟩
    · exact ⟨o, (sb.2 b' q).trans e⟩
  · obtain ⟨rfl, p5, nz5, hlen5, nd5, hrw5⟩ := mat_inv rv
    refine .mat (p5.at fun o e => (sb.2 a har).trans e) nz5 (by simpa using hlen5) nd5 fun i' r' bs' h1 h2 => ?_
    by_cases q : i' = n
    · subst q
      rw [hr] at h1; cases h1
      rw [List.getElem?_set_self hn] at h2; cases h2
      refine ⟨?_, (hrw5 _ r row hr hrow).2⟩
      have e1 : ((row.map Value.bool).toArray.setIfInBounds m (Value.bool b)) = ((row.set m b).map Value.bool).toArray := by
        simp [List.map_set]
      simpa [e1] using hp'
    · rw [List.getElem?_set_ne (Ne.symm q)] at h2
      obtain ⟨k1, k2⟩ := hrw5 i' r' bs' h1 h2
      have : r' ≠ r := fun qq => by
        subst qq
        have nd' := (List.nodup_cons.mp nd).2
        have h3 := (List.getElem?_eq_some_iff.mp h1)
        have h4 := (List.getElem?_eq_some_iff.mp hr)
        obtain ⟨k3, e3⟩ := h3
        obtain ⟨k4, e4⟩ := h4
        exact q ((List.getElem_inj nd').mp (e3.trans e4.symm))
      exact ⟨k1.at fun o e => (sb.2 r' this).trans e, k2⟩

/-- x[i], read -/
theorem Ev.subL {e i : Expr} {x y : V} {l : List V} {n : Nat} {j : Int} (he : Ev c k sc ρ e (Is c x)) (hi : Ev c k sc ρ i (Is c (.int j))) (hx : x.items = some l) (hj : j = (n : Int)) (hy : l[n]? = some y) (hl : l.length ≤ 2 ^ 20)
    (hsl : ∀ o v, subscripted i false o v = operate [o, v] (getItem o v) := by intro _ _; rfl) : Ev c k sc ρ (.Subscript e i pos) (Is c y) := fun env A s Z hE hA hr => by
  refine Subscript_ ?_
  refine wpAny_mono (he env A s Z hE hA hr) (fun o s1 ⟨Z1, u1, r1⟩ => ?_) fun _ _ x => x
  have hr1 := hr.up u1
  refine wpAny_mono (hi env A s1 Z1 hE hA hr1) (fun iv s2 ⟨Z2, u2, r2⟩ => ?_) fun _ _ x => x
  have hr2 := hr1.up u2
  obtain ⟨a, vs, rfl, hli, al⟩ := (r1.up u2).isList hr2.zin hx
  obtain ⟨t, rfl⟩ := int_inv r2
  obtain ⟨v, hv, rv⟩ := al.get n y hy
  have hn : n < l.length := (List.getElem?_eq_some_iff.mp hy).1
  subst hj
  exact tail_any hli.typeIs slot_list_getitem.lookup (wpAny_getItem_list hli (by omega) (by omega) (x := v) (by simpa using hv) ⟨Z2, u1.trans u2, .imm rv⟩) (hsl _ _)

theorem Ev.subM {e i j : Expr} {a : Addr} {rs : List Addr} {rows : List (List Bool)} {p1 : Pos} {row : List Bool} {b : Bool} {n m : Nat} {ni mi : Int} (he : Ev c k sc ρ e (Is c (.mat a rs rows))) (hi : Ev c k sc ρ i (Is c (.int ni))) (hj : Ev c k sc ρ j (Is c (.int mi)))
    (hni : ni = (n : Int)) (hmi : mi = (m : Int)) (hrow : rows[n]? = some row) (hb : row[m]? = some b) (hl : rows.length ≤ 2 ^ 20) (hl' : row.length ≤ 2 ^ 20)
    (hsl : ∀ o v, subscripted i false o v = operate [o, v] (getItem o v) := by intro _ _; rfl) (hsl' : ∀ o v, subscripted j false o v = operate [o, v] (getItem o v) := by intro _ _; rfl) :
    Ev c k sc ρ (.Subscript (.Subscript e i p1) j pos) (Is c (.bool b)) := fun env A s Z hE hA hr => by
  refine Subscript_ (Subscript_ ?_)
  refine wpAny_mono (he env A s Z hE hA hr) (fun o s1 ⟨Z1, u1, r1⟩ => ?_) fun _ _ x => x
  have hr1 := hr.up u1
  refine wpAny_mono (hi env A s1 Z1 hE hA hr1) (fun iv s2 ⟨Z2, u2, r2⟩ => ?_) fun _ _ x => x
  have hr2 := hr1.up u2
  obtain ⟨rfl, p, nz, hlen, nd, hrw⟩ := mat_inv (r1.up u2)
  obtain ⟨t, rfl⟩ := int_inv r2
  have hn : n < rows.length := (List.getElem?_eq_some_iff.mp hrow).1
  have hm : m < row.length := (List.getElem?_eq_some_iff.mp hb).1
  obtain ⟨r, hr'⟩ : ∃ r, rs[n]? = some r := ⟨rs[n]'(by omega), by simp⟩
  subst hni hmi
  refine tail_any p.isList.typeIs slot_list_getitem.lookup (wpAny_getItem_list p.isList (by omega) (by omega) (x := .ref r) (by simp [hr']) ?_) (hsl _ _)
  refine wpAny_mono (hj env A s2 Z2 hE hA hr2) (fun jv s3 ⟨Z3, u3, r3⟩ => ?_) fun _ _ x => x
  obtain ⟨t', rfl⟩ := int_inv r3
  obtain ⟨_, p4, nz4, _, _, hrw4⟩ := mat_inv ((r1.up u2).up u3)
  have hpr := (hrw4 n r row hr' hrow).1
  exact tail_any hpr.isList.typeIs slot_list_getitem.lookup (wpAny_getItem_list hpr.isList (by omega) (by omega) (x := .bool b) (by simp [hb]) ⟨Z3, (u1.trans u2).trans u3, .imm (.bool b)⟩) (hsl' _ _)
end
end Mine
end
section
open PySem PyProof.Rows
set_option maxRecDepth 10000
set_option linter.unusedVariables false
set_option linter.unusedSimpArgs false
namespace Mine

theorem Up.alloc {Z : FZ} {s : Shared} (z : ZIn Z s.heap) {o : Obj} (ho : (s.heap.push o).get? s.heap.objs.size = some o) : Up Z s (fun b => if b = s.heap.objs.size then some o else Z b) { s with heap := s.heap.push o } where
  keeps := Kp.push s o
  le := fun b ob e => by
    by_cases hb : b = s.heap.objs.size
    · subst hb; rw [Z_fresh z fresh_size] at e; cases e
    · simp [hb, e]
  zin := fun b ob e => by
    by_cases hb : b = s.heap.objs.size
    · subst hb; simp at e; subst e; exact ho
    · simp [hb] at e; exact Heap.get?_push_of_some _ (z b ob e)
  new := fun b ob e f => by
    by_cases hb : b = s.heap.objs.size
    · subst hb; exact fresh_size
    · simp [hb] at e; rw [f] at e; cases e

section
variable {c : Cx} {k : Nat} {sc : Scope} {ρ : Rho} {pos : Pos}

theorem RepL.inv1 {Z : FZ} {h : Heap} {vs : List Value} {x : V} (r : RepL c Z h vs [x]) : ∃ v, vs = [v] ∧ Rep c Z h v x := by
  match vs, r with
  | [v], r => exact ⟨v, rfl, r.1⟩
  | _ :: _ :: _, ⟨_, h⟩ => exact h.elim
theorem RepL.inv2 {Z : FZ} {h : Heap} {vs : List Value} {x y : V} (r : RepL c Z h vs [x, y]) : ∃ v w, vs = [v, w] ∧ Rep c Z h v x ∧ Rep c Z h w y := by
  match vs, r with
  | v :: ws, ⟨r, q⟩ => obtain ⟨w, rfl, r'⟩ := RepL.inv1 q; exact ⟨v, w, rfl, r, r'⟩
theorem RepL.inv3 {Z : FZ} {h : Heap} {vs : List Value} {x y z : V} (r : RepL c Z h vs [x, y, z]) : ∃ v w u, vs = [v, w, u] ∧ Rep c Z h v x ∧ Rep c Z h w y ∧ Rep c Z h u z := by
  match vs, r with
  | v :: ws, ⟨r, q⟩ => obtain ⟨w, u, rfl, r', r''⟩ := RepL.inv2 q; exact ⟨v, w, u, rfl, r, r', r''⟩

/-- (e, f) of ints -/
theorem Ev.pair {e f : Expr} {x1} {a b : Int} (he : Ev c k sc ρ e (Is c (.int a))) (hf : Ev c k sc ρ f (Is c (.int b))) (pe : plainE e = true := by rfl) (pf : plainE f = true := by rfl) : Ev c k sc ρ (.Tuple [e, f] x1 pos) (Is c (.pair a b)) := fun env A s Z hE hA hr => by
  refine wpAny_Tuple_spliced (wpAny_mono ((EvA.cons he (EvA.cons hf EvA.nil pf) pe) pos env A s Z hE hA hr) (fun vs s1 ⟨Z1, u1, r1⟩ => ?_) fun _ _ x => x)
  obtain ⟨v, w, rfl, rv, rw'⟩ := RepL.inv2 r1
  obtain ⟨t, rfl⟩ := int_inv rv; obtain ⟨u, rfl⟩ := int_inv rw'
  refine ⟨by rw [sizeLine_eq]; simp, _, u1.trans (Up.alloc u1.zin (Heap.get?_push_size _ rfl)), .imm (.pair (t := t) (u := u) ⟨_, by simp; rfl, rfl, 0, rfl⟩)⟩

/-- (e, f), a list of ints and an int -/
theorem Ev.item {e f : Expr} {x1} {ls : List Int} {b : Int} (he : Ev c k sc ρ e (Is c (.fl (ls.map V.int)))) (hf : Ev c k sc ρ f (Is c (.int b))) (pe : plainE e = true := by rfl) (pf : plainE f = true := by rfl) : Ev c k sc ρ (.Tuple [e, f] x1 pos) (Is c (.item ls b)) := fun env A s Z hE hA hr => by
  refine wpAny_Tuple_spliced (wpAny_mono ((EvA.cons he (EvA.cons hf EvA.nil pf) pe) pos env A s Z hE hA hr) (fun vs s1 ⟨Z1, u1, r1⟩ => ?_) fun _ _ x => x)
  obtain ⟨v, w, rfl, rv, rw'⟩ := RepL.inv2 r1
  obtain ⟨u, rfl⟩ := int_inv rw'
  have up := Up.alloc u1.zin (o := { cls := .type "tuple", data := .seq [v, Value.int b u].toArray }) (Heap.get?_push_size _ rfl)
  cases rv with
  | imm rv =>
    cases rv with
    | fl hs al =>
      refine ⟨by rw [sizeLine_eq]; simp, _, u1.trans up, .imm (.item (t := u) ⟨_, by simp; rfl, rfl, 0, rfl⟩ (hs.mono up.le) al.intsAre)⟩

theorem PlainList.new (h : Heap) (vs : List Value) : (h.push { cls := .type "list", data := .seq vs.toArray }).PlainList h.objs.size vs.toArray := ⟨0, Heap.get?_push_size _ rfl⟩

/-- [e, ..] -/
theorem Ev.list {es : List Expr} {xs : List V} (h : EvA c k sc ρ es xs) (hf : ∀ x ∈ xs, foot x = [] ∧ x ≠ .gone) (hl : xs.length ≤ 2 ^ 20) : Ev c k sc ρ (.List es pos) (New c xs) := fun env A s Z hE hA hr => by
  refine wpAny_List_spliced (wpAny_mono (h pos env A s Z hE hA hr) (fun vs s1 ⟨Z1, u1, r1⟩ => ?_) fun _ _ x => x)
  have al : ∀ (vs : List Value) (xs : List V), RepL c Z1 s1.heap vs xs → (∀ x ∈ xs, foot x = [] ∧ x ≠ .gone) → AllR c Z1 vs xs := by
    intro vs
    induction vs with
    | nil => intro xs h _; match xs, h with | [], _ => exact .nil
    | cons v vs ih =>
      intro xs h hf
      match xs, h with
      | x :: xs, ⟨r, q⟩ => exact .cons (Rep.immOf (r := r) (hf x (by simp)).1 (hf x (by simp)).2) (ih xs q fun y hy => hf y (by simp [hy]))
  have al1 := al vs xs r1 hf
  refine ⟨by rw [al1.length, sizeLine_eq]; omega, Z1, u1.trans (Up.same u1.zin (Kp.push _ _)), s1.heap.objs.size, vs, rfl, u1.keeps.fresh fresh_size, Z_fresh u1.zin fresh_size, PlainList.new _ _, al1⟩

theorem Ev.nil : Ev c k sc ρ (.List [] pos) (New c []) := Ev.list EvA.nil (by simp) (by simp)

theorem Ev.subT {e i : Expr} {a b j : Int} (he : Ev c k sc ρ e (Is c (.pair a b))) (hi : Ev c k sc ρ i (Is c (.int j))) {r : Int} (hj : (j = 0 ∧ r = a) ∨ (j = 1 ∧ r = b))
    (hsl : ∀ o v, subscripted i false o v = operate [o, v] (getItem o v) := by intro _ _; rfl) : Ev c k sc ρ (.Subscript e i pos) (Is c (.int r)) := fun env A s Z hE hA hr => by
  refine Subscript_ ?_
  refine wpAny_mono (he env A s Z hE hA hr) (fun o s1 ⟨Z1, u1, r1⟩ => ?_) fun _ _ x => x
  have hr1 := hr.up u1
  refine wpAny_mono (hi env A s1 Z1 hE hA hr1) (fun iv s2 ⟨Z2, u2, r2⟩ => ?_) fun _ _ x => x
  obtain ⟨t, rfl⟩ := int_inv r2
  cases r1 with
  | imm r1 =>
    cases r1 with
    | @pair T _ _ ta tb hs =>
      have ht : IsTup s2.heap T #[.int a ta, .int b tb] := (hs.mono u2.le).tuple u2.zin
      have key : ∃ w : Value, ∃ tt, w = .int r tt ∧ (#[Value.int a ta, Value.int b tb])[j.toNat]? = some w ∧ 0 ≤ j ∧ j < 2 := by
        rcases hj with ⟨rfl, rfl⟩ | ⟨rfl, rfl⟩
        · exact ⟨_, ta, rfl, rfl, by omega, by omega⟩
        · exact ⟨_, tb, rfl, rfl, by omega, by omega⟩
      obtain ⟨w, tt, rfl, hw, h0, h1⟩ := key
      exact tail_any (Heap.IsTuple.typeIs ht) slot_tuple_getitem.lookup (getItem_tuple ht (by omega) (by omega) (seqIndex_of h0 (by simpa using h1)) hw ⟨Z2, u1.trans u2, .imm (.int _ _)⟩) (hsl _ _)

theorem Ev.subI {e i : Expr} {ls : List Int} {b : Int} (he : Ev c k sc ρ e (Is c (.item ls b))) (hi : Ev c k sc ρ i (Is c (.int 1)))
    (hsl : ∀ o v, subscripted i false o v = operate [o, v] (getItem o v) := by intro _ _; rfl) : Ev c k sc ρ (.Subscript e i pos) (Is c (.int b)) := fun env A s Z hE hA hr => by
  refine Subscript_ ?_
  refine wpAny_mono (he env A s Z hE hA hr) (fun o s1 ⟨Z1, u1, r1⟩ => ?_) fun _ _ x => x
  have hr1 := hr.up u1
  refine wpAny_mono (hi env A s1 Z1 hE hA hr1) (fun iv s2 ⟨Z2, u2, r2⟩ => ?_) fun _ _ x => x
  obtain ⟨t, rfl⟩ := int_inv r2
  cases r1 with
  | imm r1 =>
    cases r1 with
    | @item T l _ _ tb vs hs hl hi' =>
      have ht : IsTup s2.heap T #[.ref l, .int b tb] := (hs.mono u2.le).tuple u2.zin
      exact tail_any (Heap.IsTuple.typeIs ht) slot_tuple_getitem.lookup (getItem_tuple ht (by omega) (by omega) (seqIndex_of (by omega) (by simp)) (x := .int b tb) rfl ⟨Z2, u1.trans u2, .imm (.int _ _)⟩) (hsl _ _)
end
end Mine
end
section
open PySem PyProof.Rows
set_option maxRecDepth 10000
set_option linter.unusedVariables false
set_option linter.unusedSimpArgs false
namespace Mine

def pickV {α : Type} (l : List α) (lo hi st : Option Int) : List α :=
  (sliceRange (sliceBounds lo hi st l.length).1 (sliceBounds lo hi st l.length).2.1 (sliceBounds lo hi st l.length).2.2).filterMap (l[·]?)
theorem AllR.places {c : Cx} {Z : FZ} {vs : List Value} {xs : List V} (h : AllR c Z vs xs) : ∀ js : List Nat, AllR c Z (js.filterMap (vs[·]?)) (js.filterMap (xs[·]?))
  | [] => .nil
  | j :: js => by
    have ih := AllR.places h js
    cases hn : xs[j]? with
    | some n =>
      obtain ⟨v, hv, r⟩ := h.get j n hn
      simp only [List.filterMap_cons, hn, hv]
      exact .cons r ih
    | none =>
      have hv : vs[j]? = none := by
        rw [List.getElem?_eq_none_iff] at hn ⊢
        rw [h.length]; exact hn
      simp only [List.filterMap_cons, hn, hv]
      exact ih
theorem AllR.pick {c : Cx} {Z : FZ} {vs : List Value} {xs : List V} (h : AllR c Z vs xs) (lo hi st : Option Int) : AllR c Z (slicePick vs.toArray lo hi st).toList (pickV xs lo hi st) := by
  have e : (slicePick vs.toArray lo hi st).toList = (sliceRange (sliceBounds lo hi st xs.length).1 (sliceBounds lo hi st xs.length).2.1 (sliceBounds lo hi st xs.length).2.2).filterMap (vs[·]?) := by
    simp [slicePick, h.length]
  rw [e]
  exact h.places _
theorem pickV_map {α β : Type} (f : α → β) (l : List α) (lo hi st : Option Int) : pickV (l.map f) lo hi st = (pickV l lo hi st).map f := by
  unfold pickV
  rw [List.length_map, List.map_filterMap]
  simp
theorem pickV_take {α : Type} (l : List α) (n : Nat) : pickV l none (some (n : Int)) none = l.take n := by
  unfold pickV
  have e : sliceBounds none (some (n : Int)) none l.length = (((0 : Nat) : Int), ((min n l.length : Nat) : Int), 1) := by
    simp [sliceBounds]
    omega
  rw [e]
  show (sliceRange ((0 : Nat) : Int) ((min n l.length : Nat) : Int) 1).filterMap _ = _
  rw [sliceRange_one]
  simp only [Nat.sub_zero, Nat.zero_add, List.map_id']
  induction l generalizing n with
  | nil => simp
  | cons x r ih =>
    cases n with
    | zero => simp
    | succ n =>
      have := ih n (by simp [sliceBounds]; omega)
      simp only [List.length_cons, Nat.succ_min_succ, List.range_succ_eq_map, List.filterMap_cons, List.getElem?_cons_zero, List.take_succ_cons, List.filterMap_map]
      rw [← this]
      rfl

theorem AllR.replicate {c : Cx} {Z : FZ} {v : Value} {x : V} (h : IRep c Z v x) : ∀ n, AllR c Z (List.replicate n v) (List.replicate n x)
  | 0 => .nil
  | n + 1 => .cons h (AllR.replicate h n)
section
variable {c : Cx} {k : Nat} {sc : Scope} {ρ : Rho} {pos : Pos}
inductive EvPart (c : Cx) (k : Nat) (sc : Scope) (ρ : Rho) : Option Expr → Option Int → Prop
  | none : EvPart c k sc ρ none none
  | some {e i} : Ev c k sc ρ e (Is c (.int i)) → EvPart c k sc ρ (some e) (some i)
theorem EvPart.run {o : Option Expr} {p : Option Int} (h : EvPart c k sc ρ o p) {env : Env} {A : Around} {s : Shared} {Z : FZ} (hE : EnvOk sc env) (hA : Room k A) (hr : Rd c env Z s ρ) :
    wpAny (model c.prog c.w) A (evalPart o env) (fun v s' => ∃ Z', Up Z s Z' s' ∧ IsPart v p) NoE s := by
  cases h with
  | none => rw [evalPart_none]; exact wpAny_pure ⟨Z, Up.refl hr.zin, .none⟩
  | some h => exact wpAny_mono (h env A s Z hE hA hr) (fun v s' ⟨Z', u, r⟩ => by obtain ⟨t, rfl⟩ := int_inv r; exact ⟨Z', u, .int _ _⟩) fun _ _ x => x

theorem Ev.slice {e : Expr} {x : V} {l : List V} {lo hi st : Option Expr} {p1 : Pos} {pl ph ps : Option Int} {ops : Value → Value → List Value} (he : Ev c k sc ρ e (Is c x)) (hx : x.items = some l) (h1 : EvPart c k sc ρ lo pl) (h2 : EvPart c k sc ρ hi ph) (h3 : EvPart c k sc ρ st ps) (h0 : ps ≠ some 0) (hl : l.length ≤ 2 ^ 20)
    (hsl : ∀ o v, subscripted (.Slice lo hi st p1) false o v = operate (ops o v) (getItem o v)) : Ev c k sc ρ (.Subscript e (.Slice lo hi st p1) pos) (New c (pickV l pl ph ps)) := fun env A s Z hE hA hr => by
  refine Subscript_ ?_
  refine wpAny_mono (he env A s Z hE hA hr) (fun o s1 ⟨Z1, u1, r1⟩ => ?_) fun _ _ x => x
  have hr1 := hr.up u1
  refine wpAny_Slice ?_
  refine wpAny_mono (h1.run hE hA hr1) (fun v1 s2 ⟨Z2, u2, q1⟩ => ?_) fun _ _ x => x
  refine wpAny_mono (h2.run hE hA (hr1.up u2)) (fun v2 s3 ⟨Z3, u3, q2⟩ => ?_) fun _ _ x => x
  refine wpAny_mono (h3.run hE hA ((hr1.up u2).up u3)) (fun v3 s4 ⟨Z4, u4, q3⟩ => ?_) fun _ _ x => x
  have hr4 := ((hr1.up u2).up u3).up u4
  obtain ⟨a, vs, rfl, hli, al⟩ := (((r1.up u2).up u3).up u4).isList hr4.zin hx
  have hlen := al.length
  have uu := ((u1.trans u2).trans u3).trans u4
  refine tail_any (s := { s4 with heap := s4.heap.push _ }) (hli.push _).typeIs slot_list_getitem.lookup (wpAny_getItem_list_slice (s := { s4 with heap := s4.heap.push _ }) (hli.push _) (Heap.IsSliceOf.new ..) q1 q2 q3 h0 ?_ (by rw [List.size_toArray, sizeLine_eq]; omega)) (hsl _ _)
  have k5 := Kp.push s4 { cls := .type "slice", data := .fields #[v1, v2, v3] }
  have u5 := uu.trans (Up.same uu.zin k5)
  have k6 := Kp.push { s4 with heap := s4.heap.push { cls := .type "slice", data := .fields #[v1, v2, v3] } } { cls := .type "list", data := .seq (slicePick vs.toArray pl ph ps) }
  refine ⟨Z4, u5.trans (Up.same u5.zin k6), _, (slicePick vs.toArray pl ph ps).toList, rfl, u5.keeps.fresh fresh_size, Z_fresh u5.zin fresh_size, ?_, al.pick pl ph ps⟩
  have := PlainList.new (s4.heap.push { cls := .type "slice", data := .fields #[v1, v2, v3] }) (slicePick vs.toArray pl ph ps).toList
  simpa using this

theorem mul_plain {prog : Program} {w : World} {A : Around} {E : Value → Shared → Prop} {s : Shared} {l : Addr} {items : Array Value} {k : Nat} {x : Int} {u : Tok} {Q : Value → Shared → Prop}
    (hl : s.heap.get? l = some { cls := .type "list", dict := none, data := .seq items k, slots := #[] })
    (h1 : ¬ (!Builtin.List.listFitsIndex x) = true) (h2 : ¬ items.size * x.toNat > (2 ^ 63 - 1) / 8) (h3 : ¬ Builtin.List.listTooLong (items.size * x.toNat) = true)
    (h : Q (.ref s.heap.objs.size) { s with heap := s.heap.push { cls := .type "list", data := .seq (List.foldl (fun x1 x2 => x1 ++ x2) #[] (List.replicate (if items.isEmpty = true then 0 else x.toNat) items)) } }) :
    wpAny (model prog w) A (binaryOp .Mult (.ref l) (.int x u)) Q E s :=
  wpAny_binaryOp_repeat_ref (T := "list") (U := "int") (by decide) ⟨_, hl, rfl⟩ (fun s' => typeIs_int s' x u) noFill_list_mul PySem.F.fills_int_mul PySem.F.slot_int_rmul repeat_list PySem.F.slot_int_index.lookup
    (call_meets PySem.F.slot_int_rmul (typeIs_int s x u) PySem.F.entry_int_rmul (PySem.F.args_int_rmul_2 _ _) (int___rmul___int_list x u l items k)
      ⟨hl, rfl, ⟨_, hl, rfl⟩, call_meets PySem.F.slot_list_mul ⟨_, hl, rfl⟩ PySem.F.entry_list_mul (PySem.F.args_list_mul_2 _ _)
        (AutoListH.list___mul___list_int_3 l items k x u h1 h2 h3) ⟨hl, h⟩⟩)

theorem new_inv {Z : FZ} {s : Shared} {Z' : FZ} {s' : Shared} {v : Value} {l : List V} (h : New c l Z s Z' s' v) : ∃ a vs, v = .ref a ∧ s'.heap.PlainList a (List.toArray vs) ∧ AllR c Z' vs l := let ⟨a, vs, h1, _, _, h2, h3⟩ := h; ⟨a, vs, h1, h2, h3⟩

/-- [b] * n -/
theorem Ev.mulList {e f : Expr} {x : V} {n : Nat} {m : Int} (he : Ev c k sc ρ e (New c [x])) (hf : Ev c k sc ρ f (Is c (.int m))) (hm : m = (n : Int)) (hn : n ≤ 2 ^ 20) : Ev c k sc ρ (.BinOp e .Mult f pos) (New c (List.replicate n x)) := fun env A s Z hE hA hr => by
  refine wpAny_BinOp (wpAny_mono (he env A s Z hE hA hr) (fun v s1 ⟨Z1, u1, q⟩ => ?_) fun _ _ x => x)
  refine wpAny_mono (hf env A s1 Z1 hE hA (hr.up u1)) (fun w s2 ⟨Z2, u2, r2⟩ => ?_) fun _ _ x => x
  obtain ⟨a, vs, rfl, ⟨kk, hp⟩, al⟩ := new_inv q
  obtain ⟨u, rfl⟩ := int_inv r2
  have hp2 := u2.keeps.get _ _ hp
  obtain ⟨v0, rfl, rv⟩ : ∃ v0, vs = [v0] ∧ IRep c Z1 v0 x := by cases al with | cons a b => cases b; exact ⟨_, rfl, a⟩
  subst hm
  have hfold : ∀ n : Nat, List.foldl (fun x1 x2 => x1 ++ x2) (#[] : Array Value) (List.replicate n #[v0]) = (List.replicate n v0).toArray := by
    intro n
    have key : ∀ (n : Nat) (acc : Array Value), List.foldl (fun x1 x2 => x1 ++ x2) acc (List.replicate n #[v0]) = acc ++ (List.replicate n v0).toArray := by
      intro n
      induction n with
      | zero => intro acc; simp
      | succ n ih => intro acc; rw [List.replicate_succ, List.foldl_cons, ih, List.replicate_succ]; apply Array.toList_inj.mp; simp
    rw [key]; simp
  have g1 : Builtin.List.listFitsIndex (n : Int) = true := by
    unfold Builtin.List.listFitsIndex
    rw [Bool.and_eq_true]
    exact ⟨decide_eq_true (by omega), decide_eq_true (by omega)⟩
  have g2 : [v0].toArray.size * (n : Int).toNat = n := by simp
  have g3 : ¬ [v0].toArray.size * (n : Int).toNat > (2 ^ 63 - 1) / 8 := by rw [g2]; exact Nat.not_lt.mpr (Nat.le_trans hn (by decide))
  have g4 : ¬ Builtin.List.listTooLong ([v0].toArray.size * (n : Int).toNat) = true := by
    rw [g2]; unfold Builtin.List.listTooLong; rw [sizeLine_eq]; simp; omega
  refine mul_plain hp2 (by rw [g1]; simp) g3 g4 ?_
  have uu := u1.trans u2
  refine ⟨Z2, uu.trans (Up.same uu.zin (Kp.push s2 _)), s2.heap.objs.size, List.replicate n v0, rfl, uu.keeps.fresh fresh_size, Z_fresh uu.zin fresh_size, ?_, ?_⟩
  · have e1 : (List.foldl (fun x1 x2 => x1 ++ x2) (#[] : Array Value) (List.replicate (if [v0].toArray.isEmpty = true then 0 else (n : Int).toNat) [v0].toArray)) = (List.replicate n v0).toArray := by
      rw [if_neg (by simp)]; exact hfold n
    rw [e1]; exact PlainList.new _ _
  · exact AllR.replicate (rv.mono u2.le) n
end
end Mine
end
section
open PySem PyProof.Rows
set_option maxRecDepth 10000
set_option linter.unusedVariables false
set_option linter.unusedSimpArgs false
namespace Mine
section
variable {c : Cx}

theorem Up.of {Z : FZ} {s : Shared} {h' : Heap} {tk : Nat} (z : ZIn Z s.heap) (k : ∀ b o, s.heap.get? b = some o → h'.get? b = some o) : Up Z s Z { s with heap := h', toks := tk } := Up.same z (Kp.mk' k)

theorem CallOk.range1 (n : Int) : CallOk c (.type "range") [.int n] (Is c (.rng 0 n)) := fun A s Z vs hA hB hv => by
  obtain ⟨v, rfl, r⟩ := RepL.inv1 hv
  obtain ⟨t, rfl⟩ := int_inv r
  refine PySem.call_range_1 ?_
  have up := Up.alloc hB.zin (o := { cls := .type "range", data := .fields #[.int 0 s.toks, .int n t, .int 1 (s.toks + 1)] }) (Heap.get?_push_size _ rfl)
  refine ⟨_, up.trans (Up.same (s' := { s with heap := s.heap.push _, toks := s.toks + 1 + 1 }) up.zin (Kp.tok (s := { s with heap := s.heap.push _ }))), .imm (.rng (t1 := s.toks) (t2 := t) (t3 := s.toks + 1) (by simp) rfl)⟩
theorem CallOk.range2 (a n : Int) : CallOk c (.type "range") [.int a, .int n] (Is c (.rng a n)) := fun A s Z vs hA hB hv => by
  obtain ⟨v, w, rfl, r, r'⟩ := RepL.inv2 hv
  obtain ⟨t, rfl⟩ := int_inv r
  obtain ⟨u, rfl⟩ := int_inv r'
  refine PySem.call_range_2 ?_
  have up := Up.alloc hB.zin (o := { cls := .type "range", data := .fields #[.int a t, .int n u, .int 1 s.toks] }) (Heap.get?_push_size _ rfl)
  refine ⟨_, up.trans (Up.same (s' := { s with heap := s.heap.push _, toks := s.toks + 1 }) up.zin (Kp.tok (s := { s with heap := s.heap.push _ }))), .imm (.rng (t1 := t) (t2 := u) (t3 := s.toks) (by simp) rfl)⟩

theorem CallOk.sum {x : V} {ns : List Int} (h : x.items = some (ns.map V.int)) : CallOk c (.builtin "sum") [x] (Is c (.int ns.sum)) := fun A s Z vs hA hB hv => by
  obtain ⟨v, rfl, r⟩ := RepL.inv1 hv
  obtain ⟨a, ws, rfl, hl, al⟩ := r.isList hB.zin h
  have hi := al.intsAre
  obtain ⟨xs, hx⟩ := hi.allInts.items
  have hl' : s.heap.IsList a (intItems xs) := hx ▸ hl
  refine sum_intListG hA.1 hl' fun h' tk t' hk => ?_
  have e1 : ns = xs.toList.map (·.1) := by
    rw [← nums_intItems, ← hx]
    exact (show numsOf ws.toArray.toList = ns from hi.numsOf).symm
  have e2 : preSum (numAt xs) xs.size = ns.sum := by
    rw [preSum_eq, List.take_of_length_le (by simp), e1]
  rw [e2]
  exact ⟨Z, Up.of hB.zin hk, .imm (.int _ _)⟩

theorem CallOk.min2 (a b : Int) : CallOk c (.builtin "min") [.int a, .int b] (Is c (.int (if b < a then b else a))) := fun A s Z vs hA hB hv => by
  obtain ⟨v, w, rfl, r, r'⟩ := RepL.inv2 hv
  obtain ⟨t, rfl⟩ := int_inv r
  obtain ⟨u, rfl⟩ := int_inv r'
  refine min_two_ints hA.1 fun h' tk hk => ⟨Z, Up.of hB.zin hk, .imm ?_⟩
  split <;> exact .int _ _
theorem CallOk.max2 (a b : Int) : CallOk c (.builtin "max") [.int a, .int b] (Is c (.int (if b > a then b else a))) := fun A s Z vs hA hB hv => by
  obtain ⟨v, w, rfl, r, r'⟩ := RepL.inv2 hv
  obtain ⟨t, rfl⟩ := int_inv r
  obtain ⟨u, rfl⟩ := int_inv r'
  refine max_two_ints hA.1 fun h' tk hk => ⟨Z, Up.of hB.zin hk, .imm ?_⟩
  split <;> exact .int _ _

theorem IntsAre.vals {vs : List Value} {ns : List Int} (h : IntsAre vs ns) (c : Cx) (Z : FZ) : AllR c Z vs (ns.map V.int) := AllR.ints h

def sortI (ns : List Int) : List Int := ns.mergeSort (fun a b => decide (a ≤ b))
theorem sortI_uniq {ns ms : List Int} (hp : ms.Perm ns) (hs : ms.Pairwise (· ≤ ·)) : ms = sortI ns := by
  refine List.Perm.eq_of_pairwise (le := fun a b => a ≤ b) (fun a b _ _ h1 h2 => Int.le_antisymm h1 h2) hs ?_ (hp.trans (List.mergeSort_perm ns _).symm)
  have := List.pairwise_mergeSort (le := fun a b : Int => decide (a ≤ b)) (fun a b c h1 h2 => by simp at *; omega) (fun a b => by simp; omega) ns
  exact this.imp fun h => by simpa using h

theorem CallOk.sorted {x : V} {ns : List Int} (h : x.items = some (ns.map V.int)) (hl : ns.length < 64) : CallOk c (.builtin "sorted") [x] (New c ((sortI ns).map V.int)) := fun A s Z vs hA hB hv => by
  obtain ⟨v, rfl, r⟩ := RepL.inv1 hv
  obtain ⟨a, ws, rfl, hli, al⟩ := r.isList hB.zin h
  have hi := al.intsAre
  refine sorted_ints hli hi (by rw [hi.length]; exact hl) fun out ns' ho hp hs => ?_
  have := sortI_uniq hp hs
  subst this
  obtain ⟨e, he⟩ := sortedAll_at s.heap ws out
  have fr : s.heap.get? (s.heap.objs.size + 1) = none := fresh_of_lt (Nat.le_succ _)
  exact ⟨Z, Up.of (tk := s.toks) hB.zin (fun b o e => sortedAll_old e), _, out.toList, rfl, fr, Z_fresh hB.zin fr, ⟨e, by simpa using he⟩, AllR.ints ho⟩

/-- sorted(x, reverse=True) -/
def RevOk (c : Cx) (x : V) (l : List V) : Prop := ∀ A s Z v, Room 0 A → Base c Z s → Rep c Z s.heap v x → wpAny (model c.prog c.w) A (call (.builtin "sorted") [v] [(Str.ofString "reverse", .bool true)]) (fun v s' => ∃ Z', Up Z s Z' s' ∧ New c l Z s Z' s' v) NoE s
theorem sortR_uniq {ns ms : List Int} (hp : ms.Perm ns) (hs : ms.Pairwise (· ≥ ·)) : ms = (sortI ns).reverse := by
  have : ms.reverse = sortI ns := sortI_uniq ((List.reverse_perm ms).trans hp) (List.pairwise_reverse.mpr (hs.imp fun h => h))
  rw [← this, List.reverse_reverse]
theorem RevOk.ints {x : V} {ns : List Int} (h : x.items = some (ns.map V.int)) (hl : ns.length < 64) : RevOk c x ((sortI ns).reverse.map V.int) := fun A s Z v hA hB r => by
  obtain ⟨a, ws, rfl, hli, al⟩ := r.isList hB.zin h
  have hi := al.intsAre
  refine sorted_ints_rev hli hi (by rw [hi.length]; exact hl) fun out ns' ho hp hs => ?_
  have hs' : ns'.Pairwise (· ≥ ·) := by simpa [Ordered] using hs
  have := sortR_uniq hp hs'
  subst this
  obtain ⟨e, he⟩ := sortedAll_at s.heap ws out
  have fr : s.heap.get? (s.heap.objs.size + 1) = none := fresh_of_lt (Nat.le_succ _)
  exact ⟨Z, Up.of (tk := s.toks) hB.zin (fun b o e => sortedAll_old e), _, out.toList, rfl, fr, Z_fresh hB.zin fr, ⟨e, by simpa using he⟩, AllR.ints ho⟩

variable {k : Nat} {sc : Scope} {ρ : Rho} {pos : Pos}
theorem Ev.sortedRev {p kp : Pos} {e : Expr} {kk : Nat} {p2 : Pos} {x : V} {l : List V} (ok : CxOk c) (hx : sc.names.lookup ("sorted" : Str) = some .globalImplicit) (hm : c.mg "sorted" = Option.none) (he : Ev c k sc ρ e (Is c x)) (h : RevOk c x l) (hpl : plainE e = true := by rfl) :
    Ev c k sc ρ (.Call (.Name "sorted" p) [e] [⟨some "reverse", .Constant (.bool true) kk p2, kp⟩] pos) (New c l) := fun env A s Z hE hA hr => by
  have e0 : eval (.Call (.Name "sorted" p) [e] [⟨some "reverse", .Constant (.bool true) kk p2, kp⟩] pos) env = (do callWith pos (← eval (.Name "sorted" p) env) [] (backTo pos (starEach [e] env)) (backToKw pos (keywordEach [⟨some "reverse", .Constant (.bool true) kk p2, kp⟩] env))) := rfl
  rw [e0]
  refine wpAny_bind (name_builtin ok hx hm (show bootBuiltins "sorted" = some (.builtin "sorted") by decide +kernel) (by decide) hE hr.toBase ?_)
  have hs1 : starEach [e] env = [(false, eval e env)] := by rw [starEach_plain hpl]; rfl
  refine callWith_kw ?_ (by rw [hs1]; rfl) (by rw [hs1]; rfl)
  refine wpAny_mono ((EvA.cons he EvA.nil hpl) pos env A s Z hE hA hr) (fun vs s1 ⟨Z1, u1, r1⟩ => ?_) fun _ _ x => x
  obtain ⟨v, rfl, r⟩ := RepL.inv1 r1
  refine kws_cons (wpAny_Constant_bool (kws_nil ?_))
  refine wpAny_mono (h A s1 Z1 v (hA.mono (Nat.zero_le _)) (hr.up u1).toBase r) (fun v s' ⟨Z', u', q⟩ => ⟨Z', u1.trans u', Pre.new _ _ _ _ _ _ _ u1 q⟩) fun _ _ x => x

theorem CallOk.list {x : V} {l : List V} (h : x.items = some l) (hl : l.length ≤ 2 ^ 20) : CallOk c (.type "list") [x] (New c l) := fun A s Z vs hA hB hv => by
  obtain ⟨v, rfl, r⟩ := RepL.inv1 hv
  obtain ⟨a, ws, rfl, hli, al⟩ := r.isList hB.zin h
  obtain ⟨o, ho, hc, n, hd⟩ := hli
  refine call_list_seq a (.inl rfl) ho hc hd (fun h' c' hk hs => ?_) (by rw [List.size_toArray, al.length, sizeLine_eq]; omega)
  exact ⟨Z, Up.of (tk := s.toks) hB.zin hk, _, ws, rfl, fresh_size, Z_fresh hB.zin fresh_size, ⟨c', hs⟩, al⟩

/-- list(t) where t is a global tuple of ints -/
theorem Ev.listTup {x : Str} {p p2 : Pos} {a : Addr} {ws : List Value} {ns : List Int} (ok : CxOk c) (hx : sc.names.lookup ("list" : Str) = some .globalImplicit) (hm : c.mg "list" = Option.none) (hy : sc.names.lookup x = some .globalImplicit) (hmy : c.mg x = some (.ref a))
    (ht : c.h₀.IsTuple a ws.toArray) (hi : IntsAre ws ns) (hl : ns.length ≤ 2 ^ 20) (hd : (x == ("__debug__" : Str)) = false := by decide) : Ev c k sc ρ (.Call (.Name "list" p) [.Name x p2] [] pos) (New c (ns.map V.int)) := fun env A s Z hE hA hr => by
  refine Call_Name rfl (name_builtin ok hx hm (show bootBuiltins "list" = some (.type "list") by decide +kernel) (by decide) hE hr.toBase ?_)
  have k0 : ∀ b o, c.h₀.get? b = some o → s.heap.get? b = some o := fun b o e => hr.zin b o (hr.base b o e)
  refine PyProof.Rows.callWith_type (by rfl) (Calls.evalArgs_plain (Calls.spliced_cons (Q := fun vs s1 => wpAny (model c.prog c.w) A (call (.type "list") ([] ++ vs)) _ NoE s1) ?_))
  refine Calls.Name_function_global (hE.scope ▸ hE.kind) (by unfold Env.kindOf; rw [hE.scope]; exact hy) ?_ hd
  refine Calls.loadGlobal_global (hE.glob ▸ ok.g.keeps k0) hmy (Calls.spliced_nil ?_)
  obtain ⟨o, ho, hc, n, hd'⟩ := ht
  refine call_list_seq a (.inr rfl) (k0 _ _ ho) hc hd' (fun h' c' hk hs => ?_) (by rw [List.size_toArray, hi.length, sizeLine_eq]; omega)
  exact ⟨Z, Up.of (tk := s.toks) hr.zin hk, _, ws, rfl, fresh_size, Z_fresh hr.zin fresh_size, ⟨c', hs⟩, AllR.ints hi⟩

end
end Mine
end
section
open PySem PyProof.Rows PySem.Spec
set_option maxRecDepth 10000
set_option linter.unusedVariables false
set_option linter.unusedSimpArgs false
namespace Mine
def NewD (c : Cx) (ks : List Int) : Out := fun Z s Z' s' v => ∃ a kvs ep, v = .ref a ∧ s.heap.get? a = none ∧ Z' a = none ∧ s'.heap.DictAt (intKind c.prog c.w) a kvs ep ∧ kvs.map (·.1) = ks ∧ (a == sysModules) = false
section
variable {c : Cx} {k : Nat} {sc : Scope} {ρ : Rho} {P : Fl → Rho → Prop} {pos : Pos}

theorem Base.low {Z : FZ} {s : Shared} (ok : CxOk c) (h : Base c Z s) {a : Addr} (ha : @LE.le Nat _ s.heap.objs.size a) : (a == sysModules) = false := by
  have k0 : ∀ b o, c.h₀.get? b = some o → s.heap.get? b = some o := fun b o e => h.zin b o (h.base b o e)
  have := modules_low (ok.nolimit.keeps k0)
  exact beq_eq_false_iff_ne.mpr (Nat.ne_of_gt (Nat.lt_of_lt_of_le this ha))

theorem Ev.dict0 (ok : CxOk c) : Ev c k sc ρ (.Dict [] [] pos) (NewD c []) := fun env A s Z hE hA hr => by
  obtain ⟨ep, hd⟩ := (Heap.DictOf.new (knd := intKind c.prog c.w) s.heap).dictAt
  exact wpAny_Dict_empty ⟨Z, Up.same hr.zin (Kp.push _ _), _, [], ep, rfl, fresh_size, Z_fresh hr.zin fresh_size, hd, rfl, hr.toBase.low ok (Nat.le_refl _)⟩

theorem Ev.dict00 {k1 k2 : Nat} {p1 p2 : Pos} (ok : CxOk c) : Ev c k sc ρ (.Dict [some (.Constant (.int 0) k1 p1)] [.Constant (.int 0) k2 p2] pos) (NewD c [0]) := fun env A s Z hE hA hr => by
  refine Dict_lits_int (D := [(.int 0, .int 0)]) rfl rfl (by decide) rfl rfl (by simp) (by simp) fun a o h₁ tk ha ho ht hk => ?_
  obtain ⟨kvs, hd, hf⟩ := ht
  obtain ⟨ep, hda⟩ := (Heap.dictOf_iff.mpr ⟨o, ho, hd⟩).dictAt
  refine ⟨Z, Up.of hr.zin hk, a, kvs, ep, rfl, fresh_of_lt ha, Z_fresh hr.zin (fresh_of_lt ha), hda, ?_, hr.toBase.low ok ha⟩
  have key : ∀ (kvs : List (Int × Value)) (D : List (PyData × PyData)), PyProof.V.FlatPairs (PyData.int) kvs D → D = [(.int 0, .int 0)] → kvs.map (·.1) = [0] := by
    intro kvs D h e
    cases h with
    | nil => cases e
    | cons a b =>
      simp only [List.cons.injEq, Prod.mk.injEq, PyData.int.injEq] at e
      obtain ⟨⟨e1, _⟩, e2⟩ := e
      subst e2
      cases b
      simp [e1]
  exact key kvs _ hf rfl

theorem WS.assignNewD {x : Str} {p : Pos} {e : Expr} {ks : List Int} (h : Ev c k sc ρ e (NewD c ks)) (hx : Storable sc x) (hp : ∀ a, P .nrm ((x, .dict a ks) :: ρ))
    (hsw : ∀ env, swapsWith e (some (.Name x p)) pos.line env = pure false := by intro _; rfl) : WS c k sc (.Assign [.Name x p] e pos) ρ P := fun fx env A s Z hE hA hs => by
  refine wpAny_Assign_Name (wpAny_mono (h env A s Z hE hA hs.rd) (fun v s1 ⟨Z1, u, a, kvs, ep, hv, hn, hz, hd, hks, hsm⟩ => ?_) fun _ _ x => x) (hsw env)
  subst hv
  have hs1 := hs.up u
  refine St.store hE hx hs1 (V := .dict a ks) (.dict hd hks hz hsm) (fun b hb => ?_) (fun y W _ hy b hb hb' => ?_) fun h' tk st _ => ⟨Z1, _, .nrm, st, .nrm, hp a⟩
  · simp only [foot, List.mem_singleton] at hb; subst hb
    refine ⟨hs.fresh hn, fun q => ?_⟩
    obtain ⟨o, e⟩ := hs.locA _ q; rw [hn] at e; cases e
  · simp only [foot, List.mem_singleton] at hb; subst hb
    obtain ⟨⟨o, e⟩, _⟩ := hs.footIn hy hb'; rw [hn] at e; cases e

def addK (ks : List Int) (n : Int) : List Int := if n ∈ ks then ks else ks ++ [n]
theorem stored_keys (kvs : List (Int × Value)) (n : Int) (v : Value) : (stored kvs n v).map (·.1) = addK (kvs.map (·.1)) n := by
  unfold stored addK
  by_cases h : n ∈ kvs.map (·.1)
  · rw [if_pos h, if_pos]
    · rw [List.map_map]
      apply List.map_congr_left
      intro a _
      simp only [Function.comp]
      split <;> rfl
    · obtain ⟨a, h1, h2⟩ := List.mem_map.mp h
      exact List.any_eq_true.mpr ⟨a, h1, by simpa using h2⟩
  · rw [if_neg h, if_neg]
    · simp
    · intro q
      obtain ⟨a, h1, h2⟩ := List.any_eq_true.mp q
      exact h (List.mem_map.mpr ⟨a, h1, by simpa using h2⟩)

theorem dict_inv {Z : FZ} {h : Heap} {v : Value} {a : Addr} {ks : List Int} (r : Rep c Z h v (.dict a ks)) : v = .ref a ∧ ∃ kvs ep, h.DictAt (intKind c.prog c.w) a kvs ep ∧ kvs.map (·.1) = ks ∧ Z a = Option.none ∧ (a == sysModules) = false := by
  cases r with
  | imm r => cases r
  | dict d e n s => exact ⟨rfl, _, _, d, e, n, s⟩

/-- x[i] = e on a dict -/
theorem WS.setD {x : Str} {p1 p2 : Pos} {i e : Expr} {a : Addr} {ks : List Int} {j : Int} {n : Int} (hx : ρ.lookup x = some (.dict a ks)) (hk : sc.names.lookup x = some .local ∨ sc.names.lookup x = some .cell)
    (he : Ev c k sc ρ e (Is c (.int n))) (hi : Ev c k sc ρ i (Is c (.int j))) (hl : ks.length ≤ 2 ^ 20) (hp : P .nrm ((x, .dict a (addK ks j)) :: ρ))
    (hs : ∀ env, swapsWith e (some (.Subscript (.Name x p1) i p2)) pos.line env = pure false := by intro _; rfl)
    (hd : (x == ("__debug__" : Str)) = false := by decide) (hcd : (x == ("__classdict__" : Str)) = false := by decide) : WS c k sc (.Assign [.Subscript (.Name x p1) i p2] e pos) ρ P := fun fx env A s Z hE hA st => by
  refine wpAny_Assign_Subscript (wpAny_mono (he env A s Z hE hA st.rd) (fun v s1 ⟨Z1, u1, r1⟩ => ?_) fun _ _ x => x) (hs env)
  have st1 := st.up u1
  refine wpAny_mono (Ev.name hx (hk.imp id .inl) (by simp) hd hcd env A s1 Z1 hE hA st1.rd) (fun o s2 ⟨Z2, u2, r2⟩ => ?_) fun _ _ x => x
  have st2 := st1.up u2
  refine wpAny_mono (hi env A s2 Z2 hE hA st2.rd) (fun iv s3 ⟨Z3, u3, r3⟩ => ?_) fun _ _ x => x
  have st3 := st2.up u3
  obtain ⟨rfl, kvs, ep, hda, hks, hz, hsm⟩ := dict_inv (r2.up u3)
  obtain ⟨t, rfl⟩ := int_inv r3
  have hlen : kvs.length = ks.length := by rw [← hks]; simp
  refine wpAny_setItem_pairs (knd := intKind c.prog c.w) (intKind_is c.prog c.w j t) hda.dictOf (fun h' hd' sb => ?_) (by rw [hlen, sizeLine_eq]; omega)
  refine ⟨Z3, _, .nrm, st3.write (V' := .dict a (addK ks j)) (tk := s3.toks + 1) hx (by simp) rfl (Wr.sameBut sb (let ⟨o, _, _, e, _⟩ := hd'; ⟨o, e⟩)) (fun v rv => ?_), .nrm, hp⟩
  obtain ⟨rfl, _⟩ := dict_inv rv
  obtain ⟨ep', hd''⟩ := hd'.dictAt
  exact .dict hd'' (by rw [stored_keys, hks]) hz hsm

theorem CmpOk.notInFD {ks : List Int} (n : Int) : CmpOk c .NotIn (.int n) (.fd ks) (!(ks.contains n)) := fun A s Z v w hA hB hv hw => by
  obtain ⟨t, rfl⟩ := int_inv hv
  cases hw with
  | imm hw =>
    cases hw with
    | fd hf hsm =>
      obtain ⟨kvs, ep, o, hk, hz, hd⟩ := hf
      have hda := hd s.heap (hB.zin _ _ hz)
      refine wpAny_notIn_of (intKind_is c.prog c.w n t) hsm hda.dictOf.mapOf ⟨?_, Kp.tok⟩
      subst hk
      congr 2
      unfold valueAt
      rw [Option.isSome_map, Bool.eq_iff_iff, List.find?_isSome]
      simp [List.contains_iff_mem, eq_comm]

theorem Ev.addList {e f : Expr} {l l' : List V} {b : Addr} (he : Ev c k sc ρ e (New c l)) (hf : Ev c k sc ρ f (Is c (.list b l'))) (hl : l.length + l'.length ≤ 2 ^ 20) : Ev c k sc ρ (.BinOp e .Add f pos) (New c (l ++ l')) := fun env A s Z hE hA hr => by
  refine wpAny_BinOp (wpAny_mono (he env A s Z hE hA hr) (fun v s1 ⟨Z1, u1, q⟩ => ?_) fun _ _ x => x)
  refine wpAny_mono (hf env A s1 Z1 hE hA (hr.up u1)) (fun w s2 ⟨Z2, u2, r2⟩ => ?_) fun _ _ x => x
  obtain ⟨a, vs, rfl, ⟨kk, hp⟩, al⟩ := new_inv q
  obtain ⟨ws, rfl, ⟨kk', hp'⟩, nz, al'⟩ := list_inv r2
  have uu := u1.trans u2
  refine PySem.P.add_list (u2.keeps.get _ _ hp) hp' ?_ (by rw [List.size_toArray, List.size_toArray, al.length, al'.length, sizeLine_eq]; omega)
  refine ⟨Z2, uu.trans (Up.same uu.zin (Kp.push s2 _)), _, vs ++ ws, rfl, uu.keeps.fresh fresh_size, Z_fresh uu.zin fresh_size, ?_, (al.mono u2.le).append al'⟩
  have := PlainList.new s2.heap (vs ++ ws)
  simpa using this
end
end Mine
end
section
open PySem PyProof.Rows
set_option maxRecDepth 10000
set_option linter.unusedVariables false
set_option linter.unusedSimpArgs false
namespace Mine

def locFx (env : Env) (Z : FZ) (s : Shared) (ρ : Rho) : Fx := { h₀ := s.heap, Z₀ := Z, F := fun a => Loc env a ∨ ∃ y W, ρ.lookup y = some W ∧ a ∈ foot W }

section
variable {c : Cx} {fx : Fx} {env : Env} {Z : FZ} {s : Shared} {ρ : Rho}
theorem St.local' (hs : St c fx env Z s ρ) : St c (locFx env Z s ρ) env Z s ρ :=
  { hs with
    run := Wr.refl _ _
    le := FZ.Le.refl Z
    new := fun a o e f => by
      have f' : Z a = none := f
      rw [e] at f'; cases f'
    locM := fun a h => .inr (.inl h)
    feet := fun y W hy a ha => ⟨.inr (.inr ⟨y, W, hy, ha⟩), (hs.feet y W hy a ha).2⟩ }
theorem St.mineOf (hs : St c fx env Z s ρ) {a : Addr} (h : (locFx env Z s ρ).Mine a) : fx.Mine a := by
  rcases h with h | h | ⟨y, W, hy, ha⟩
  · exact hs.fresh h
  · exact hs.locM a h
  · exact (hs.feet y W hy a ha).1
theorem St.trans' {Z' : FZ} {s' : Shared} {ρ' : Rho} (hs : St c fx env Z s ρ) (hs' : St c (locFx env Z s ρ) env Z' s' ρ') : St c fx env Z' s' ρ' :=
  { hs' with
    run := ⟨fun a o n e => hs'.run.keep a o (fun q => by
        rcases hs.mineOf (.inr q) with q | q
        · rw [q] at e; cases e
        · exact n q) (hs.run.keep a o n e), fun a o e => let ⟨o', e'⟩ := hs.run.alive a o e; hs'.run.alive a o' e'⟩
    le := hs.le.trans hs'.le
    new := fun a o e f => by
      cases q : Z a with
      | some o' => exact hs.new a o' q f
      | none => exact hs.mineOf (hs'.new a o e q)
    locM := hs.locM
    feet := fun y W hy a ha => ⟨hs.mineOf (hs'.feet y W hy a ha).1, (hs'.feet y W hy a ha).2⟩ }

/-- what stands apart from all that the frame may write -/
structure Apart (env : Env) (Z : FZ) (s : Shared) (ρ : Rho) (I : Addr) : Prop where
  alive : ∃ o, s.heap.get? I = some o
  loc : ¬ Loc env I
  feet : ∀ y W, ρ.lookup y = some W → I ∉ foot W
  z : Z I = none
theorem Apart.body {Z' : FZ} {s' : Shared} {ρ' : Rho} {I : Addr} (h : Apart env Z s ρ I) (hs' : St c (locFx env Z s ρ) env Z' s' ρ') : Apart env Z' s' ρ' I ∧ ∀ o, s.heap.get? I = some o → s'.heap.get? I = some o := by
  obtain ⟨o, e⟩ := h.alive
  have nm : ¬ (locFx env Z s ρ).Mine I := fun q => by
    rcases q with q | q | ⟨y, W, hy, ha⟩
    · have : s.heap.get? I = none := q
      rw [e] at this; cases this
    · exact h.loc q
    · exact h.feet y W hy ha
  have nF : ¬ (locFx env Z s ρ).F I := fun q => nm (.inr q)
  refine ⟨⟨⟨o, hs'.run.keep I o nF e⟩, h.loc, fun y W hy ha => nm (hs'.feet y W hy I ha).1, ?_⟩, fun o e => hs'.run.keep I o nF e⟩
  cases q : Z' I with
  | none => rfl
  | some o' => exact absurd (hs'.new I o' q h.z) nm
theorem Apart.up {Z' : FZ} {s' : Shared} {I : Addr} (h : Apart env Z s ρ I) (u : Up Z s Z' s') : Apart env Z' s' ρ I := by
  obtain ⟨o, e⟩ := h.alive
  refine ⟨⟨o, u.keeps.get I o e⟩, h.loc, h.feet, ?_⟩
  cases q : Z' I with
  | none => rfl
  | some o' => have := u.new I o' q h.z; rw [e] at this; cases this

theorem bind_feet {t : Expr} {x : V} {bs : Rho} (h : bindT t x = some bs) (hx : foot x = []) : ∀ p ∈ bs, foot p.2 = [] := by
  unfold bindT at h
  split at h
  · cases h; intro p hp; simp only [List.mem_singleton] at hp; subst hp; exact hx
  · cases h; intro p hp; simp only [List.mem_cons, List.not_mem_nil, or_false] at hp; rcases hp with rfl | rfl <;> rfl
  · cases h
theorem feet_app {bs : Rho} (hb : ∀ p ∈ bs, foot p.2 = []) (hf : ∀ y W, ρ.lookup y = some W → ∀ a ∈ foot W, fx.Mine a ∧ ¬ Loc env a) : ∀ y W, (bs ++ ρ).lookup y = some W → ∀ a ∈ foot W, fx.Mine a ∧ ¬ Loc env a := by
  induction bs with
  | nil => exact hf
  | cons p r ih =>
    obtain ⟨x, V⟩ := p
    have e := hb (x, V) (by simp)
    exact feet_cons (ih fun q hq => hb q (by simp [hq])) fun a ha => by rw [e] at ha; cases ha
theorem apart_app {bs : Rho} (hb : ∀ p ∈ bs, foot p.2 = []) (hf : ∀ x y V W, x ≠ y → ρ.lookup x = some V → ρ.lookup y = some W → ∀ a ∈ foot V, a ∉ foot W) :
    ∀ x y V W, x ≠ y → (bs ++ ρ).lookup x = some V → (bs ++ ρ).lookup y = some W → ∀ a ∈ foot V, a ∉ foot W := by
  induction bs with
  | nil => exact hf
  | cons p r ih =>
    obtain ⟨x, V⟩ := p
    exact apart_imm (ih fun q hq => hb q (by simp [hq])) (hb (x, V) (by simp))
theorem mem_app {bs : Rho} (hb : ∀ p ∈ bs, foot p.2 = []) {I : Addr} (hf : ∀ y W, ρ.lookup y = some W → I ∉ foot W) : ∀ y W, (bs ++ ρ).lookup y = some W → I ∉ foot W := by
  induction bs with
  | nil => exact hf
  | cons p r ih =>
    obtain ⟨x, V⟩ := p
    intro y W hy
    by_cases q : y = x
    · subst q; rw [List.cons_append, lookup_cons_eq] at hy; cases hy; rw [hb (y, V) (by simp)]; simp
    · rw [List.cons_append, lookup_cons_ne q] at hy; exact ih (fun q hq => hb q (by simp [hq])) y W hy

/-- an own object that no name bears is written -/
theorem St.side {I : Addr} {h' : Heap} {tk : Nat} (hs : St c fx env Z s ρ) (ap : Apart env Z s ρ I) (hm : fx.Mine I) (k : ∀ b o, b ≠ I → s.heap.get? b = some o → h'.get? b = some o) (al : ∃ o, h'.get? I = some o) :
    St c fx env Z { s with heap := h', toks := tk } ρ ∧ Apart env Z { s with heap := h', toks := tk } ρ I := by
  have w : Wr (fun a => a = I) s.heap h' := ⟨fun b o n e => k b o n e, fun b o e => by
    by_cases q : b = I
    · subst q; exact al
    · exact ⟨o, k b o q e⟩⟩
  refine ⟨hs.wr w (fun a q => q ▸ ⟨hm, ap.z⟩) (hs.vars.wr (fun b o n e => w.keep b o n e) (fun a ha q => ap.loc (q ▸ ha.loc)) (fun x a h q => ap.loc (q ▸ .inr ⟨x, h⟩)) fun y W hy a ha q => ap.feet y W hy (q ▸ ha)) hs.feet hs.apart, al, ap.loc, ap.feet, ap.z⟩
end

section
variable {c : Cx} {fx : Fx} {env : Env} {Z : FZ} {s : Shared} {ρ : Rho}
theorem St.fresh0 (h : St c fx env Z s ρ) {a : Addr} (e : s.heap.get? a = none) : fx.h₀.get? a = none := by
  cases q : fx.h₀.get? a with
  | none => rfl
  | some o => obtain ⟨o', e'⟩ := h.run.alive a o q; rw [e] at e'; cases e'
theorem St.side0 {I : Addr} {h' : Heap} {tk : Nat} (hs : St c fx env Z s ρ) (ap : Apart env Z s ρ I) (hm : fx.h₀.get? I = none) (k : ∀ b o, b ≠ I → s.heap.get? b = some o → h'.get? b = some o) :
    St c fx env Z { s with heap := h', toks := tk } ρ :=
  { zin := fun a o e => k a o (fun q => by rw [q, ap.z] at e; cases e) (hs.zin a o e)
    base := hs.base
    gens := hs.gens
    os := hs.os
    drawn := hs.drawn
    vars := hs.vars.wr (F := fun a => a = I) (fun b o n e => k b o n e) (fun a ha q => ap.loc (q ▸ ha.loc)) (fun x a h q => ap.loc (q ▸ .inr ⟨x, h⟩)) fun y W hy a ha q => ap.feet y W hy (q ▸ ha)
    run := ⟨fun a o n e => k a o (fun q => by rw [q, hm] at e; cases e) (hs.run.keep a o n e), fun a o e => by
      by_cases q : a = I
      · rw [q, hm] at e; cases e
      · obtain ⟨o', e'⟩ := hs.run.alive a o e; exact ⟨o', k a o' q e'⟩⟩
    le := hs.le
    new := hs.new
    locZ := hs.locZ
    locM := hs.locM
    locA := fun a ha => let ⟨o, e⟩ := hs.locA a ha; ⟨o, k a o (fun q => ap.loc (q ▸ ha)) e⟩
    feet := hs.feet
    apart := hs.apart }
end

section
variable {c : Cx} {k : Nat} {sc : Scope} {ρ : Rho} {P : Fl → Rho → Prop} {pos : Pos}

theorem WS.for_ {t it : Expr} {body : List Stmt} {xs : List V} (Inv : Nat → Rho → Prop) (hit : Ev c k sc ρ it (Yields c xs)) (ht : ∀ x ∈ tgtNames t, Storable sc x) (h0 : Inv 0 ρ)
    (hb : ∀ i x ρ', xs[i]? = some x → Inv i ρ' → foot x = [] ∧ ∃ bs, bindT t x = some bs ∧ Wp c k sc body (bs ++ ρ') (fun fl ρ'' => match fl with | .nrm | .cnt => Inv (i + 1) ρ'' | .brk => P .nrm ρ'' | .ret v => P (.ret v) ρ''))
    (hend : ∀ ρ', Inv xs.length ρ' → P .nrm ρ') (hfs : ∀ env x, foldedSetIterable it env x = pure x := by intros; rfl) : WS c k sc (.For t it body [] pos) ρ P := fun fx env A s Z hE hA hs => by
  refine wpAny_For (wpAny_mono (hit env A s Z hE hA hs.rd) (fun v s1 ⟨Z1, u1, hy⟩ => ?_) fun _ _ x => x) (hfs env)
  refine hy A hA.1 NoE _ fun I st s2 kp2 hI0 hZI itr hst => ?_
  have u2 : Up Z s Z1 s2 := u1.trans (Up.same u1.zin kp2)
  have hs2 := hs.up u2
  have hmI : fx.Mine I := hs.fresh hI0
  have ap2 : Apart env Z1 s2 ρ I := ⟨itr.there 0 _ hst, (fun q => by obtain ⟨o, e⟩ := hs.locA I q; rw [hI0] at e; cases e),
    (fun y W hy ha => by obtain ⟨⟨o, e⟩, _⟩ := hs.footIn hy ha; rw [hI0] at e; cases e), hZI⟩
  refine codeAny_forLoop_any (fun n s' => ∃ i Z' ρ', n = xs.length - i ∧ i ≤ xs.length ∧ St c fx env Z' s' ρ' ∧ Apart env Z' s' ρ' I ∧ FZ.Le Z1 Z' ∧ st i s'.heap ∧ Inv i ρ') (fun n s3 ⟨i, Z3, ρ3, hn, hi, hs3, ap3, le3, hst3, hinv⟩ => ?_)
    xs.length ⟨0, Z1, ρ, by omega, Nat.zero_le _, hs2, ap2, FZ.Le.refl _, hst, h0⟩
  have it3 := itr.mono le3
  by_cases hlt : i < xs.length
  · have hx : xs[i]? = some xs[i] := by simp [hlt]
    refine it3.item i s3 xs[i] _ _ hx hs3.zin hst3 fun v h' tk hr hst' hk => ?_
    obtain ⟨hs4, ap4⟩ := hs3.side (tk := tk) ap3 hmI hk (it3.there _ _ hst')
    obtain ⟨hfx, bs, hbs, hbody⟩ := hb i xs[i] ρ3 hx hinv
    refine it3.go (i + 1) _ t v _ _ hst' ?_
    have bf := bind_feet hbs hfx
    have lo : ∀ a, OwnT env t a → Loc env a := fun a ⟨x, _, h⟩ => h.loc
    refine assignT (s := { s3 with heap := h', toks := tk }) hE hA.1 hbs ht hs4.vars hr hs4.zin (fun a o => hs4.locZ a (lo a o)) (fun y W hy a o ha => (hs4.feet y W hy a ha).2 (lo a o)) fun h5 tk5 v5 w5 z5 => ?_
    have hs5 : St c fx env Z3 { s3 with heap := h5, toks := tk5 } (bs ++ ρ3) := hs4.wr w5 (fun a o => ⟨hs4.locM a (lo a o), hs4.locZ a (lo a o)⟩) v5 (feet_app bf hs4.feet) (apart_app bf hs4.apart)
    have keepI : ∀ o, h'.get? I = some o → h5.get? I = some o := fun o e => w5.keep I o (fun q => ap4.loc (lo I q)) e
    have ap5 : Apart env Z3 { s3 with heap := h5, toks := tk5 } (bs ++ ρ3) I := ⟨let ⟨o, e⟩ := ap4.alive; ⟨o, keepI o e⟩, ap4.loc, mem_app bf ap4.feet, ap4.z⟩
    have hst5 : st (i + 1) h5 := it3.frame (i + 1) _ _ hst' hs4.zin z5 keepI
    refine wpAny_mono (hbody _ env A { s3 with heap := h5, toks := tk5 } Z3 hE hA hs5.local') (fun f s6 ⟨Z6, ρ6, fl, hs6, hf, hp⟩ => ?_) fun _ _ x => x.elim
    obtain ⟨ap6, k6⟩ := ap5.body hs6
    have hs6' := hs5.trans' hs6
    have hst6 : st (i + 1) s6.heap := it3.frame (i + 1) _ _ hst5 z5 (fun a o e => hs6.zin a o (hs6.le a o e)) k6
    cases hf with
    | nrm => exact ⟨xs.length - (i + 1), by omega, i + 1, Z6, ρ6, rfl, hlt, hs6', ap6, le3.trans hs6.le, hst6, hp⟩
    | cnt => exact ⟨xs.length - (i + 1), by omega, i + 1, Z6, ρ6, rfl, hlt, hs6', ap6, le3.trans hs6.le, hst6, hp⟩
    | brk => exact ⟨Z6, ρ6, .nrm, hs6', .nrm, hp⟩
    | ret r => exact ⟨Z6, ρ6, _, hs6', .ret r, hp⟩
  · have hi' : i = xs.length := by omega
    subst hi'
    refine it3.done s3 _ _ hs3.zin hst3 fun h' tk hk => ?_
    refine wpAny_execs_nil ?_
    exact ⟨Z3, ρ3, .nrm, hs3.side0 ap3 (hs.fresh0 hI0) hk, .nrm, hend ρ3 hinv⟩

/-- while -/
theorem WS.while_ {t : Expr} {body : List Stmt} (Inv : Nat → Rho → Prop) (n : Nat) (h0 : Inv n ρ)
    (hb : ∀ n ρ', Inv n ρ' → ∃ b, Tst c k sc ρ' t b ∧ (b = true → Wp c k sc body ρ' (fun fl ρ'' => match fl with | .nrm | .cnt => ∃ m, m < n ∧ Inv m ρ'' | .brk => P .nrm ρ'' | .ret v => P (.ret v) ρ'')) ∧ (b = false → P .nrm ρ')) : WS c k sc (.While t body [] pos) ρ P := fun fx env A s Z hE hA hs => by
  refine wpAny_While (codeAny_whileLoop (fun n s' => ∃ Z' ρ', St c fx env Z' s' ρ' ∧ Inv n ρ') (fun n s3 ⟨Z3, ρ3, hs3, hinv⟩ => ?_) n ⟨Z, ρ, hs, h0⟩)
  obtain ⟨b, htst, hyes, hno⟩ := hb n ρ3 hinv
  refine wpAny_mono (htst env A s3 Z3 hE hA hs3.rd) (fun r s4 ⟨hr, kp⟩ => ?_) fun _ _ x => x.elim
  subst hr
  have hs4 := hs3.up (Up.same hs3.zin kp)
  cases r with
  | true =>
    refine wpAny_mono (hyes rfl fx env A s4 Z3 hE hA hs4) (fun f s6 ⟨Z6, ρ6, fl, hs6, hf, hp⟩ => ?_) fun _ _ x => x.elim
    cases hf with
    | nrm => obtain ⟨m, hm, hi⟩ := hp; exact ⟨m, hm, Z6, ρ6, hs6, hi⟩
    | cnt => obtain ⟨m, hm, hi⟩ := hp; exact ⟨m, hm, Z6, ρ6, hs6, hi⟩
    | brk => exact ⟨Z6, ρ6, .nrm, hs6, .nrm, hp⟩
    | ret r => exact ⟨Z6, ρ6, _, hs6, .ret r, hp⟩
  | false => exact wpAny_execs_nil ⟨Z3, ρ3, .nrm, hs4, .nrm, hno rfl⟩
end
end Mine
end
section
open PySem PyProof.Rows
set_option maxRecDepth 10000
set_option linter.unusedVariables false
set_option linter.unusedSimpArgs false
namespace Mine

def swapB (sc : Scope) (elt : Expr) (gens : List Comprehension) (scope : Scope) (p0 : Pos) (x : Str) (p : Pos) : Bool :=
  sc.names.lookup x == some .local && p.line == (Expr.ListComp elt gens scope p0).pos.line && !(scope.names.any fun (n, k) => n == x && (k == .local || k == .cell))
theorem swap_of {sc : Scope} {elt : Expr} {gens : List Comprehension} {scope : Scope} {p0 : Pos} {x : Str} {p : Pos} {line : Nat} {env : Env} (hE : EnvOk sc env) (h : swapB sc elt gens scope p0 x p = true) :
    swapsWith (.ListComp elt gens scope p0) (some (.Name x p)) line env = pure true := by
  have hb : env.blockKind = .function := by unfold Env.blockKind; rw [hE.scope, hE.kind]; rfl
  have hk : env.kindOf x = sc.names.lookup x := by unfold Env.kindOf; rw [hE.scope]
  unfold swapB at h
  simp only [swapsWith, hb, hk]
  rw [show ((ScopeKind.function == ScopeKind.function) = true) from rfl, Bool.true_and, h]

section
variable {c : Cx} {k : Nat} {sc : Scope} {ρ : Rho} {P : Fl → Rho → Prop} {pos : Pos}

theorem WS.compG {β : Type} {xs : List V} {J : Shared → (Addr → Prop) → List β → List Value → FZ → Heap → Prop} {outs : List β} {elt target iter : Expr} {ifs : List Expr} {rest : List Comprehension} {scope : Scope} {x : Str} {p p0 : Pos}
    (hkind : scope.kind = .function) (hnd : (scope.names.map (·.1)).Nodup) (hfree : ∀ n, (n, NameKind.free) ∈ scope.names → sc.names.lookup n = some .cell ∨ sc.names.lookup n = some .free)
    (hiter : Ev c k sc ρ iter (Yields c xs))
    (loop : ∀ A Z s, Room k A → ∀ Z1 I D st W cenv s4, CF c A sc scope ρ xs Z s Z1 I D st W cenv s4 →
      codeAny (model c.prog c.w) A (.compLoop (.ListComp elt (⟨target, iter, ifs, 0⟩ :: rest) scope p0) 0 (.ref I) (.ref D) cenv)
        (fun r s' => ∃ Z', r = .ok .next ∧ CS c cenv Z s W D (J s fun a => W a ∨ a = I) (cap scope ρ) outs Z' s') s4)
    (fin : ∀ Z s I D W cenv Z' s', (∀ a, W a → s.heap.get? a = Option.none) → W D → W cenv.locals → cenv.locals ≠ D → CS c cenv Z s W D (J s fun a => W a ∨ a = I) (cap scope ρ) outs Z' s' →
      ∃ U, Rep c Z' s'.heap (.ref D) U ∧ (∀ a ∈ foot U, s.heap.get? a = Option.none ∧ a ≠ cenv.locals) ∧ P .nrm ((x, U) :: ρ))
    (hx : sc.names.lookup x = some .local) (hsw : swapB sc elt (⟨target, iter, ifs, 0⟩ :: rest) scope p0 x p = true)
    (hs : ∀ env x, foldedSetIterable iter env x = pure x := by intros; rfl) : WS c k sc (.Assign [.Name x p] (.ListComp elt (⟨target, iter, ifs, 0⟩ :: rest) scope p0) pos) ρ P := fun fx env A s Z hE hA st => by
  rw [exec_Assign_Name_used _ _ _ _ (swap_of hE hsw)]
  refine wpAny_bind (wpAny_standAt (wpAny_bind ?_))
  show wpAny _ A (do let _ ← comprehension (.ListComp elt (⟨target, iter, ifs, 0⟩ :: rest) scope p0) scope env _ (newList []) false (eval iter env) (some (PySem.assign (.Name x p) env))) _ _ s
  refine wpAny_bind (wpAny_mono (comp_setup (use := some (PySem.assign (.Name x p) env)) (Q := fun _ s' => ∃ Z' ρ' fl, St c fx env Z' s' ρ' ∧ FlR c Z' .next fl ∧ P fl ρ') (J := J s) (outs := outs) (hs env) hkind hnd hfree hE hA st.rd hiter (loop A Z s hA) ?_) (fun _ s' hq => wpAny_pure (wpAny_pure hq)) fun _ _ e => e)
  intro I D W cenv Z' s' hW hWD hWC hCD cs
  obtain ⟨U, hr, hft, hP⟩ := fin Z s I D W cenv Z' s' hW hWD hWC hCD cs
  have st' := st.up cs.up
  show wpAny _ A (PySem.assign (.Name x p) env (.ref D)) _ _ _
  obtain ⟨m, Fm, hm⟩ := cs.vars
  obtain ⟨m0, n0, _⟩ := Fm.ns
  have nLoc : ∀ a, s.heap.get? a = none → ¬ Loc env a := fun a e q => by obtain ⟨o, e'⟩ := st.locA a q; rw [e] at e'; cases e'
  have nFeet : ∀ a, s.heap.get? a = none → ∀ y V, ρ.lookup y = some V → a ∉ foot V := fun a e y V hy ha => by obtain ⟨⟨o, e'⟩, _⟩ := st.footIn hy ha; rw [e] at e'; cases e'
  refine wpAny_assign_Name (St.store hE (.inl hx) st' hr (fun a ha => ⟨st.fresh (hft a ha).1, nLoc a (hft a ha).1⟩) (fun y V _ hy a ha => nFeet a (hft a ha).1 y V hy) fun h2 tk2 st2 w2 => ?_)
  have hC0 := hW _ hWC
  have nOwn : ∀ a, Own1 env x a → cenv.locals ≠ a := fun a h q => nLoc _ hC0 (q ▸ h.loc)
  have ap : Apart env Z' { s' with heap := h2, toks := tk2 } ((x, U) :: ρ) cenv.locals := by
    obtain ⟨o, e⟩ := cs.wI _ hWC
    refine ⟨⟨o, w2.keep _ o (fun q => nOwn _ q rfl) e⟩, nLoc _ hC0, fun y V hy ha => ?_, cs.wZ _ hWC⟩
    by_cases q : y = x
    · subst q; rw [lookup_cons_eq] at hy; cases hy; exact (hft _ ha).2 rfl
    · rw [lookup_cons_ne q] at hy; exact nFeet _ hC0 y V hy ha
  refine ⟨m0, let ⟨o, es, ep, e, r⟩ := n0; ⟨o, es, ep, w2.keep _ o (fun q => nOwn _ q rfl) e, r⟩, fun h3 sb => ?_⟩
  have st3 := st2.side0 (h' := h3) (tk := tk2) ap (st.fresh0 hC0) fun b o hb e => (sb.2 b hb).trans e
  exact ⟨Z', _, .nrm, st3, .nrm, hP⟩

/-- x = [g(y) for y in xs if f(y)] -/
theorem WS.assignComp {xs : List V} {elt target iter : Expr} {ifs : List Expr} {scope : Scope} {x : Str} {p p0 : Pos} (f : V → Bool) (g : V → V) (hiter : Ev c k sc ρ iter (Yields c xs))
    (hb : ∀ x ∈ xs, foot x = [] ∧ ∃ bs, bindT target x = some bs ∧ Tsts c k (relab scope sc) (bs ++ cap scope ρ) ifs (f x) ∧ (f x = true → ∀ U, El c k (relab scope sc) U (JV c U) (bs ++ cap scope ρ) elt (g x)))
    (hlen : xs.length ≤ 2 ^ 20) (hp : ∀ a, P .nrm ((x, .list a ((xs.filter f).map g)) :: ρ)) (hx : sc.names.lookup x = some .local)
    (hfree : ∀ n, (n, NameKind.free) ∈ scope.names → sc.names.lookup n = some .cell ∨ sc.names.lookup n = some .free) (ht : TgtIn scope target) (hsw : swapB sc elt [⟨target, iter, ifs, 0⟩] scope p0 x p = true)
    (hs : ∀ env x, foldedSetIterable iter env x = pure x := by intros; rfl) (hkind : scope.kind = .function := by rfl) (hnd : (scope.names.map (·.1)).Nodup := by decide) :
    WS c k sc (.Assign [.Name x p] (.ListComp elt [⟨target, iter, ifs, 0⟩] scope p0) pos) ρ P := by
  refine WS.compG (J := fun _ => JV c) (outs := (xs.filter f).map g) hkind hnd hfree hiter (fun A Z s hA => comp_loop1 hA ht (fun U F _ => JV.st U F) (fun U Z h _ _ => .nil) f g hb hlen) (fun Z s I D W cenv Z' s' hW hWD hWC hCD cs => ?_) hx hsw hs
  obtain ⟨vs, hpl, hl, hj⟩ := cs.acc
  refine ⟨.list D ((xs.filter f).map g), .list hpl (cs.wZ _ hWD) hj, fun a ha => ?_, hp D⟩
  simp only [foot, List.mem_singleton] at ha; subst ha
  exact ⟨hW _ hWD, Ne.symm hCD⟩

theorem AllR.boolVals {Z : FZ} : ∀ {bs : List Bool} {vs : List Value}, AllR c Z vs (bs.map V.bool) → vs = bs.map Value.bool
  | [], _, h => by cases h; rfl
  | b :: r, _, h => by cases h with | cons h1 h2 => cases h1; rw [AllR.boolVals h2]; rfl

/-- rows of a matrix under way -/
def JM (c : Cx) (s : Shared) (U : Addr → Prop) : List (List Bool) → List Value → FZ → Heap → Prop := fun rows vs Z h =>
  (∀ a, U a → s.heap.get? a = Option.none) ∧ (∀ b o, s.heap.get? b = some o → h.get? b = some o) ∧ ∃ rs : List Addr, vs = rs.map Value.ref ∧ rs.Nodup ∧ rs.length = rows.length ∧ ∀ (i : Nat) r bs, rs[i]? = some r → rows[i]? = some bs → ¬ U r ∧ Z r = Option.none ∧ s.heap.get? r = Option.none ∧ h.PlainList r (bs.map Value.bool).toArray
theorem JM.st (s : Shared) (U F : Addr → Prop) (hF : ∀ a, F a → U a) : JSt F (JM c s U) := fun outs vs Z h Z' h' ⟨hu, hk, rs, h1, h2, h3, h4⟩ le nw wk =>
  ⟨hu, fun b o e => wk b o (fun q => by rw [hu b (hF b q)] at e; cases e) (hk b o e), rs, h1, h2, h3, fun i r bs hr hb => by
    obtain ⟨k1, k2, k3, k4⟩ := h4 i r bs hr hb
    refine ⟨k1, ?_, k3, k4.at fun o e => wk r o (fun q => k1 (hF r q)) e⟩
    cases q : Z' r with
    | none => rfl
    | some o => obtain ⟨n, e⟩ := k4; rw [nw r o q k2] at e; cases e⟩

theorem WS.assignMat {xs : List V} {elt target iter : Expr} {scope : Scope} {x : Str} {p p0 : Pos} {row : List Bool} (hiter : Ev c k sc ρ iter (Yields c xs))
    (hb : ∀ x ∈ xs, foot x = [] ∧ ∃ bs, bindT target x = some bs ∧ Ev c k (relab scope sc) (bs ++ cap scope ρ) elt (New c (row.map V.bool)))
    (hlen : xs.length ≤ 2 ^ 20) (hp : ∀ a rs, P .nrm ((x, .mat a rs (List.replicate xs.length row)) :: ρ)) (hx : sc.names.lookup x = some .local)
    (hfree : ∀ n, (n, NameKind.free) ∈ scope.names → sc.names.lookup n = some .cell ∨ sc.names.lookup n = some .free) (ht : TgtIn scope target) (hsw : swapB sc elt [⟨target, iter, [], 0⟩] scope p0 x p = true)
    (hs : ∀ env x, foldedSetIterable iter env x = pure x := by intros; rfl) (hkind : scope.kind = .function := by rfl) (hnd : (scope.names.map (·.1)).Nodup := by decide) :
    WS c k sc (.Assign [.Name x p] (.ListComp elt [⟨target, iter, [], 0⟩] scope p0) pos) ρ P := by
  refine WS.compG (J := JM c) (outs := (xs.filter fun _ => true).map fun _ => row) hkind hnd hfree hiter (fun A Z s hA => comp_loop1 hA ht (fun U F hF => JM.st s U F hF) (fun U Z h hu hk => ⟨hu, hk, [], rfl, List.nodup_nil, rfl, fun i r bs hr => by simp at hr⟩) (fun _ => true) (fun _ => row) (fun x hx => ?_) hlen) (fun Z s I D W cenv Z' s' hW hWD hWC hCD cs => ?_) hx hsw hs
  · obtain ⟨h1, bs, h2, h3⟩ := hb x hx
    refine ⟨h1, bs, h2, Tsts.nil, fun _ U env A2 s2 Z2 outs vs hE hA2 hr hU hj => ?_⟩
    refine wpAny_mono (h3 env A2 s2 Z2 hE hA2 hr) (fun v s3 ⟨Z3, u3, a, ws, hv, hn, hz, hpl, al⟩ => ⟨Z3, u3, ?_⟩) fun _ _ x => x
    obtain ⟨hu, hk, rs, e1, e2, e3, e4⟩ := hj
    subst hv
    have hws := AllR.boolVals al
    subst hws
    have na : a ∉ rs := fun ha => by
      obtain ⟨i, hi, hr'⟩ := List.mem_iff_getElem.mp ha
      obtain ⟨_, _, _, n, e⟩ := e4 i a (outs[i]'(by omega)) (by simp [hi, hr']) (by simp)
      rw [hn] at e; cases e
    refine ⟨hu, fun b o e => u3.keeps.get b o (hk b o e), rs ++ [a], by rw [e1]; simp, ?_, by simp [e3], fun i r bs' hri hbi => ?_⟩
    · rw [List.nodup_append]
      exact ⟨e2, by simp, fun x hx y hy => by simp at hy; subst hy; exact fun q => na (q ▸ hx)⟩
    · by_cases hi : i < rs.length
      · rw [List.getElem?_append_left hi] at hri
        rw [List.getElem?_append_left (by omega)] at hbi
        obtain ⟨k1, k2, k3, k4⟩ := e4 i r bs' hri hbi
        refine ⟨k1, ?_, k3, k4.at fun o e => u3.keeps.get r o e⟩
        cases q : Z3 r with
        | none => rfl
        | some o => obtain ⟨n, e⟩ := k4; rw [u3.new r o q k2] at e; cases e
      · rw [List.getElem?_append_right (by omega)] at hri hbi
        have : i = rs.length := by
          have := (List.getElem?_eq_some_iff.mp hri).1
          simp at this; omega
        subst this
        simp only [Nat.sub_self, List.getElem?_cons_zero, Option.some.injEq] at hri
        rw [e3, Nat.sub_self] at hbi
        simp only [List.getElem?_cons_zero, Option.some.injEq] at hbi
        subst hri; subst hbi
        refine ⟨fun q => ?_, hz, ?_, hpl⟩
        · obtain ⟨o, e⟩ := hU a q; rw [hn] at e; cases e
        · cases q : s.heap.get? a with
          | none => rfl
          | some o => rw [hk a o q] at hn; cases hn
  · obtain ⟨vs, hpl, hl, _, _, rs, h1, h2, h3, h4⟩ := cs.acc
    have e0 : (xs.filter fun _ => true).map (fun _ => row) = List.replicate xs.length row := by
      simp [List.map_const']
    subst h1
    rw [e0] at h3 h4
    have kk : ∀ r ∈ rs, ¬ (W r ∨ r = I) ∧ Z' r = Option.none ∧ s.heap.get? r = Option.none := fun r hr => by
      obtain ⟨i, hi, hr'⟩ := List.mem_iff_getElem.mp hr
      obtain ⟨k1, k2, k3, _⟩ := h4 i r row (by simp [hi, hr']) (by rw [List.getElem?_replicate]; simp at h3; simp; omega)
      exact ⟨k1, k2, k3⟩
    refine ⟨.mat D rs (List.replicate xs.length row), .mat hpl (cs.wZ _ hWD) h3 (List.nodup_cons.mpr ⟨fun q => (kk D q).1 (.inl hWD), h2⟩) (fun i r bs hr hb => let ⟨_, k2, _, k4⟩ := h4 i r bs hr hb; ⟨k4, k2⟩), fun a ha => ?_, hp D rs⟩
    rcases List.mem_cons.mp ha with rfl | ha
    · exact ⟨hW _ hWD, Ne.symm hCD⟩
    · exact ⟨(kk a ha).2.2, fun q => (kk a ha).1 (.inl (q ▸ hWC))⟩
end
end Mine
end
section
open PySem PyProof.Rows PySem.Calls
set_option maxRecDepth 10000
set_option linter.unusedVariables false
set_option linter.unusedSimpArgs false
namespace Mine

def FnAt (c : Cx) (d : DefRec) : Prop := ∃ a o pm code doc, c.mg d.name = some (.ref a) ∧ c.h₀.get? a = some o ∧ o.data = .func (docDef d.name d.params d.body d.scope pm code doc) ∧ c.h₀.CodeRec code d.name

theorem bindL_skip (kf : Str → Option NameKind) : ∀ (bs : List (Str × Value)) (m : Str → Option Value) (y : Str), y ∉ bs.map (·.1) → bindL kf bs m y = m y
  | [], m, y, _ => rfl
  | (n, v) :: r, m, y, h => by
    simp only [List.map_cons, List.mem_cons, not_or] at h
    unfold bindL
    rw [bindL_skip kf r _ y h.2]
    split
    · simp [h.1]
    · rfl
theorem bindC_skip (kf : Str → Option NameKind) : ∀ (bs : List (Str × Value)) (m : Str → Option Value) (y : Str), y ∉ bs.map (·.1) → bindC kf bs m y = m y
  | [], m, y, _ => rfl
  | (n, v) :: r, m, y, h => by
    simp only [List.map_cons, List.mem_cons, not_or] at h
    unfold bindC
    rw [bindC_skip kf r _ y h.2]
    split
    · rfl
    · simp [h.1]
theorem bindL_at (kf : Str → Option NameKind) : ∀ (bs : List (Str × Value)) (m : Str → Option Value) (y : Str) (v : Value), (bs.map (·.1)).Nodup → kf y = some .local → bs.lookup y = some v → bindL kf bs m y = some v
  | [], _, _, _, _, _, h => by cases h
  | (n, w) :: r, m, y, v, hd, hk, h => by
    simp only [List.map_cons, List.nodup_cons] at hd
    unfold bindL
    by_cases q : y = n
    · subst q
      rw [List.lookup_cons, beq_self_eq_true] at h
      cases h
      rw [bindL_skip kf r _ y hd.1, if_pos hk]; simp
    · rw [List.lookup_cons, beq_eq_false_iff_ne.mpr q] at h
      exact bindL_at kf r _ y v hd.2 hk h
theorem bindC_at (kf : Str → Option NameKind) : ∀ (bs : List (Str × Value)) (m : Str → Option Value) (y : Str) (v : Value), (bs.map (·.1)).Nodup → kf y ≠ some .local → bs.lookup y = some v → bindC kf bs m y = some v
  | [], _, _, _, _, _, h => by cases h
  | (n, w) :: r, m, y, v, hd, hk, h => by
    simp only [List.map_cons, List.nodup_cons] at hd
    unfold bindC
    by_cases q : y = n
    · subst q
      rw [List.lookup_cons, beq_self_eq_true] at h
      cases h
      rw [bindC_skip kf r _ y hd.1, if_neg hk]; simp
    · rw [List.lookup_cons, beq_eq_false_iff_ne.mpr q] at h
      exact bindC_at kf r _ y v hd.2 hk h

theorem RepL.lookup {c : Cx} {Z : FZ} {h : Heap} : ∀ {ps : List Str} {vs : List Value} {xs : List V} {y : Str} {U : V}, RepL c Z h vs xs → (ps.zip xs).lookup y = some U → ∃ v, (ps.zip vs).lookup y = some v ∧ Rep c Z h v U
  | [], _, _, _, _, _, h => by simp at h
  | p :: ps, [], [], _, _, _, h => by simp at h
  | p :: ps, v :: vs, x :: xs, y, U, ⟨r, q⟩, h => by
    rw [List.zip_cons_cons, List.lookup_cons] at h ⊢
    cases e : y == p with
    | true => rw [e] at h; cases h; exact ⟨v, rfl, r⟩
    | false => rw [e] at h; exact RepL.lookup q h
  | p :: ps, [], _ :: _, _, _, h, _ => h.elim
  | p :: ps, _ :: _, [], _, _, h, _ => h.elim
theorem RepL.len {c : Cx} {Z : FZ} {h : Heap} : ∀ {vs : List Value} {xs : List V}, RepL c Z h vs xs → vs.length = xs.length
  | [], [], _ => rfl
  | v :: vs, x :: xs, ⟨_, q⟩ => congrArg (· + 1) q.len
  | [], _ :: _, h => h.elim
  | _ :: _, [], h => h.elim
theorem zip_fst : ∀ (ps : List Str) (vs : List Value), ps.length = vs.length → (ps.zip vs).map (·.1) = ps
  | [], [], _ => rfl
  | p :: ps, v :: vs, h => by simp [zip_fst ps vs (by simpa using h)]
  | [], _ :: _, h => by simp at h
  | _ :: _, [], h => by simp at h
theorem lookup_names {ps : List Str} {xs : List V} {y : Str} {U : V} (h : (ps.zip xs).lookup y = some U) : y ∈ ps := by
  induction ps generalizing xs with
  | nil => simp at h
  | cons p ps ih =>
    cases xs with
    | nil => simp at h
    | cons x xs =>
      rw [List.zip_cons_cons, List.lookup_cons] at h
      cases e : y == p with
      | true => simp at e; simp [e]
      | false => rw [e] at h; exact List.mem_cons_of_mem _ (ih h)

/-- how the parameters are bound -/
structure Sig (d : DefRec) (ps : List Str) : Prop where
  bind : ∀ pm code doc vs, vs.length = ps.length → bindArgs (docDef d.name d.params d.body d.scope pm code doc) ⟨vs, []⟩ = pure (ps.zip vs)
  nd : ps.Nodup
  kind : d.scope.kind = .function
  st : ∀ p ∈ ps, Storable d.scope p
  co : d.scope.isCoroutine = false
  gen : d.scope.isGenerator = false
  nofree : ∀ x, d.scope.names.lookup x ≠ some .free
  cellmem : ∀ x, d.scope.names.lookup x = some .cell → (x, NameKind.cell) ∈ d.scope.names

theorem call_fn {c : Cx} {k : Nat} {d : DefRec} {ps : List Str} {xs : List V} {P : Fl → Rho → Prop} {A : Around} {s : Shared} {Z : FZ} {a : Addr} {vs : List Value} (ok : CxOk c) (hS : Sig d ps) (hlen : ps.length = xs.length) (hf : c.mg d.name = some (.ref a)) (hF : FnAt c d)
    (hap : ∀ x y V W, x ≠ y → (ps.zip xs).lookup x = some V → (ps.zip xs).lookup y = some W → ∀ b ∈ foot V, b ∉ foot W)
    (hw : Wp c k d.scope d.body (ps.zip xs) P) (hA : Room (k + 1) A) (hB : Base c Z s) (hv : RepL c Z s.heap vs xs) :
    wpAny (model c.prog c.w) A (call (.ref a) vs) (fun v s' => ∃ fx env Z' ρ' fl x, fx.h₀ = s.heap ∧ fx.Z₀ = Z ∧ fx.F = (fun b => ∃ y W, (ps.zip xs).lookup y = some W ∧ b ∈ foot W) ∧ St c fx env Z' s' ρ' ∧ IRep c Z' v x ∧ P fl ρ' ∧ (fl = .ret x ∨ (x = .none ∧ ∀ y, fl ≠ .ret y))) NoE s := by
  obtain ⟨a', o, pm, code, doc, e1, ho, hd, hcd⟩ := hF
  rw [hf] at e1; cases e1
  have k0 : ∀ b o, c.h₀.get? b = some o → s.heap.get? b = some o := fun b o e => hB.zin b o (hB.base b o e)
  have hvl : vs.length = ps.length := by rw [hv.len, hlen]
  refine wpAny_call ?_
  refine codeAny_call_cells (fd := docDef d.name d.params d.body d.scope pm code doc) (body := d.body) hA.depth (k0 _ _ ho) hd (ok.nolimit.keeps k0) (let ⟨cc, oo, vv, tt, h1, h2, h3⟩ := hcd; ⟨cc, oo, vv, tt, h1, k0 _ _ h2, h3⟩) rfl (hS.bind pm code doc vs hvl) rfl (fun x hx => ?_) (fun s₁ x => ?_) hS.co hS.gen hS.kind
  · have hx1 : x.1 ∈ ps := by
      have : x.1 ∈ (ps.zip vs).map (·.1) := List.mem_map_of_mem hx
      rwa [zip_fst ps vs hvl.symm] at this
    rcases hS.st _ hx1 with q | q
    · exact .inl q
    · refine .inr ⟨q, ?_⟩
      obtain ⟨b, hb⟩ := cellsFrom_has d.scope.names (s.heap.objs.size + 1) x.1 (hS.cellmem _ q)
      cases e : (cellsFrom (s.heap.objs.size + 1) d.scope.names []).lookup x.1 with
      | none => exact absurd (List.lookup_eq_none_iff.mp e (x.1, b) hb) (by simp)
      | some _ => exact e ▸ rfl
  · generalize henv : callEnvC (docDef d.name d.params d.body d.scope pm code doc) s.heap.objs.size a = env at x ⊢
    have hsc : env.scope = d.scope := by rw [← henv]; rfl
    have hL : env.locals = s.heap.objs.size := by rw [← henv]; rfl
    have hcells : env.cells = cellsFrom (s.heap.objs.size + 1) d.scope.names [] := by rw [← henv]; rfl
    have hko : ∀ y, env.kindOf y = d.scope.names.lookup y := fun y => by unfold Env.kindOf; rw [hsc]
    obtain ⟨h1, tk1, hs1⟩ := x.toInCall.same
    have kp : Kp s s₁ := ⟨h1, tk1, hs1, fun b o e => by have := x.toInCall.keep b o e; rw [hs1] at this; exact this⟩
    have up : Up Z s Z s₁ := Up.same hB.zin kp
    have lfr : ∀ b, Loc env b → s.heap.get? b = none := fun b hb => by
      rcases hb with rfl | ⟨y, hy⟩
      · exact fresh_of_lt (Nat.le_of_eq hL.symm)
      · have := x.above y b (mem_of_lookup hy)
        rw [hL] at this
        exact fresh_of_lt (Nat.le_of_lt this)
    have hE : EnvOk d.scope env :=
      { scope := hsc
        kind := hS.kind
        glob := by rw [← henv]; rfl
        bi := by rw [← henv]; rfl
        apart := fun y z b h1 h2 => name_of_addr x.apart (mem_of_lookup h1) (mem_of_lookup h2)
        apartL := fun y b h1 => Ne.symm (Nat.ne_of_lt (x.above y b (mem_of_lookup h1))) }
    have hst : St c { h₀ := s.heap, Z₀ := Z, F := fun b => ∃ y W, (ps.zip xs).lookup y = some W ∧ b ∈ foot W } env Z s₁ (ps.zip xs) :=
      { toBase := hB.up up
        vars := by
          refine ⟨fun y => if env.kindOf y = some .local then bindL env.kindOf (ps.zip vs) (fun _ => none) y else bindC env.kindOf (ps.zip vs) (fun _ => none) y, ⟨⟨_, x.toInCall.ns, fun y hy => by simp only [hy, if_true]⟩, fun y hy => ?_⟩, fun y U hy hg => ?_⟩
          · have hcl : d.scope.names.lookup y = some .cell := by
              rw [hko] at hy
              rcases hy with hy | hy
              · exact hy
              · exact absurd hy (hS.nofree y)
            obtain ⟨b, hb⟩ := cellsFrom_has d.scope.names (s.heap.objs.size + 1) y (hS.cellmem _ hcl)
            cases e : env.cells.lookup y with
            | none => rw [hcells] at e; exact absurd (List.lookup_eq_none_iff.mp e (y, b) hb) (by simp)
            | some b' =>
              refine ⟨b', rfl, ?_⟩
              have nk : ¬ env.kindOf y = some .local := by rw [hko, hcl]; simp
              rw [if_neg nk]
              exact x.cell y b' e
          · obtain ⟨v, h1, h2⟩ := hv.lookup hy
            have ndn : ((ps.zip vs).map (·.1)).Nodup := by rw [zip_fst ps vs hvl.symm]; exact hS.nd
            refine ⟨v, ?_, h2.up up⟩
            by_cases hl : env.kindOf y = some .local
            · simp only [hl, if_true]; exact bindL_at _ _ _ _ _ ndn hl h1
            · simp only [hl, if_false]; exact bindC_at _ _ _ _ _ ndn hl h1
        run := Wr.ofKp kp
        le := FZ.Le.refl Z
        new := fun b o e f => by
          have f' : Z b = none := f
          rw [e] at f'; cases f'
        locZ := fun b hb => Z_fresh hB.zin (lfr b hb)
        locM := fun b hb => .inl (lfr b hb)
        locA := fun b hb => by
          rcases hb with rfl | ⟨y, hy⟩
          · obtain ⟨o, es, ep, e, _⟩ := x.toInCall.ns; exact ⟨o, e⟩
          · obtain ⟨o, e, _⟩ := x.cell y b hy; exact ⟨o, e⟩
        feet := fun y W hy b hb => ⟨.inr ⟨y, W, hy, hb⟩, fun q => by
          obtain ⟨v, _, h2⟩ := hv.lookup hy
          obtain ⟨o, e⟩ := h2.footIn b hb
          rw [lfr b q] at e; cases e⟩
        apart := hap }
    refine wpAny_mono (hw _ env (A.deeper env) s₁ Z hE (hA.deeper env) hst) (fun f s' ⟨Z', ρ', fl, hs', hfl, hp⟩ => ?_) fun _ _ x => x.elim
    cases hfl with
    | ret r => exact ⟨_, env, Z', ρ', _, _, rfl, rfl, rfl, hs', r, hp, .inl rfl⟩
    | nrm => exact ⟨_, env, Z', ρ', _, _, rfl, rfl, rfl, hs', .none, hp, .inr ⟨rfl, fun y => by simp⟩⟩
    | brk => exact ⟨_, env, Z', ρ', _, _, rfl, rfl, rfl, hs', .none, hp, .inr ⟨rfl, fun y => by simp⟩⟩
    | cnt => exact ⟨_, env, Z', ρ', _, _, rfl, rfl, rfl, hs', .none, hp, .inr ⟨rfl, fun y => by simp⟩⟩
end Mine
end
section
open PySem PyProof.Rows PySem.Calls
set_option maxRecDepth 10000
set_option linter.unusedVariables false
set_option linter.unusedSimpArgs false
namespace Mine

theorem Base.kp {c : Cx} {Z Z' : FZ} {s s' : Shared} (b : Base c Z s) (b' : Base c Z' s') (k : ∀ a o, s.heap.get? a = some o → s'.heap.get? a = some o) : Kp s s' := by
  obtain ⟨hp, g, d, tk, os⟩ := s
  obtain ⟨hp', g', d', tk', os'⟩ := s'
  have e1 : g = #[] := b.gens
  have e2 : g' = #[] := b'.gens
  have e3 : d = c.drawn := b.drawn
  have e4 : d' = c.drawn := b'.drawn
  have e5 : os = c.os := b.os
  have e6 : os' = c.os := b'.os
  subst e1 e2 e3 e4 e5 e6
  exact ⟨hp', tk', rfl, k⟩

def retOf : Fl → V
  | .ret x => x
  | _ => .none

def PureFn (c : Cx) (k : Nat) (d : DefRec) (xs : List V) (R : V → Prop) : Prop := ∀ A s Z vs a, c.mg d.name = some (.ref a) → Room (k + 1) A → Base c Z s → RepL c Z s.heap vs xs →
  wpAny (model c.prog c.w) A (call (.ref a) vs) (fun v s' => ∃ Z' x, Up Z s Z' s' ∧ IRep c Z' v x ∧ R x) NoE s

theorem PureFn.of {c : Cx} {k : Nat} {d : DefRec} {ps : List Str} {xs : List V} {P : Fl → Rho → Prop} {R : V → Prop} (ok : CxOk c) (hS : Sig d ps) (hlen : ps.length = xs.length) (hF : FnAt c d) (hxs : ∀ x ∈ xs, foot x = [])
    (hw : Wp c k d.scope d.body (ps.zip xs) P) (hP : ∀ fl ρ', P fl ρ' → R (retOf fl)) : PureFn c k d xs R := fun A s Z vs a hm hA hB hv => by
  have hft : ∀ y W, (ps.zip xs).lookup y = some W → foot W = [] := fun y W hy => by
    have := mem_of_lookup hy
    exact hxs W (List.of_mem_zip this).2
  refine wpAny_mono (call_fn ok hS hlen hm hF (fun x y V W _ hx _ b hb => by rw [hft x V hx] at hb; cases hb) hw hA hB hv) (fun v s' ⟨fx, env, Z', ρ', fl, x, e1, e2, e3, st, r, hp, hfl⟩ => ?_) fun _ _ x => x
  have kp : Kp s s' := hB.kp st.toBase fun b o e => st.run.keep b o (fun q => by
    rw [e3] at q
    obtain ⟨y, W, hy, hb⟩ := q
    rw [hft y W hy] at hb; cases hb) (e1 ▸ e)
  refine ⟨Z', x, ⟨kp, e2 ▸ st.le, st.zin, fun b o e f => ?_⟩, r, ?_⟩
  · rcases st.new b o e (e2 ▸ f) with q | q
    · exact e1 ▸ q
    · rw [e3] at q
      obtain ⟨y, W, hy, hb⟩ := q
      rw [hft y W hy] at hb; cases hb
  · have := hP fl ρ' hp
    rcases hfl with rfl | ⟨rfl, hn⟩
    · exact this
    · cases fl with
      | ret y => exact absurd rfl (hn y)
      | _ => exact this

def OwnFn (c : Cx) (k : Nat) (d : DefRec) (b : Addr) (l : List V) (rest : List V) (R : V → List V → Prop) : Prop := ∀ A s Z vs a, c.mg d.name = some (.ref a) → Room (k + 1) A → Base c Z s → RepL c Z s.heap vs (.list b l :: rest) →
  wpAny (model c.prog c.w) A (call (.ref a) vs) (fun v s' => ∃ Z' x l', Base c Z' s' ∧ IRep c Z' v x ∧ Rep c Z' s'.heap (.ref b) (.list b l') ∧ Wr (fun a => a = b) s.heap s'.heap ∧ FZ.Le Z Z' ∧ (∀ a o, Z' a = some o → Z a = none → s.heap.get? a = none) ∧ R x l') NoE s

theorem OwnFn.of {c : Cx} {k : Nat} {d : DefRec} {p : Str} {ps : List Str} {b : Addr} {l rest : List V} {P : Fl → Rho → Prop} {R : V → List V → Prop} (ok : CxOk c) (hS : Sig d (p :: ps)) (hlen : ps.length = rest.length) (hF : FnAt c d) (hxs : ∀ x ∈ rest, foot x = [])
    (hw : Wp c k d.scope d.body ((p, .list b l) :: ps.zip rest) P) (hP : ∀ fl ρ', P fl ρ' → ∃ l', ρ'.lookup p = some (.list b l') ∧ R (retOf fl) l') : OwnFn c k d b l rest R := fun A s Z vs a hm hA hB hv => by
  have hft : ∀ y W, y ≠ p → ((p :: ps).zip (V.list b l :: rest)).lookup y = some W → foot W = [] := fun y W hyp hy => by
    rw [List.zip_cons_cons, lookup_cons_ne hyp] at hy
    exact hxs W (List.of_mem_zip (mem_of_lookup hy)).2
  have hp0 : ((p :: ps).zip (V.list b l :: rest)).lookup p = some (.list b l) := by rw [List.zip_cons_cons, lookup_cons_eq]
  have hF0 : ∀ q, (∃ y W, ((p :: ps).zip (V.list b l :: rest)).lookup y = some W ∧ q ∈ foot W) → q = b := fun q ⟨y, W, hy, hq⟩ => by
    by_cases e : y = p
    · subst e; rw [hp0] at hy; cases hy; simpa [foot] using hq
    · rw [hft y W e hy] at hq; cases hq
  refine wpAny_mono (call_fn (ps := p :: ps) (xs := .list b l :: rest) ok hS (by simp [hlen]) hm hF (fun x y U W hxy hx hy q hq => ?_) hw hA hB hv) (fun v s' ⟨fx, env, Z', ρ', fl, x, e1, e2, e3, st, r, hp, hfl⟩ => ?_) fun _ _ x => x
  · by_cases e : x = p
    · rw [hft y W (fun q => hxy (e.trans q.symm)) hy]; simp
    · rw [hft x U e hx] at hq; cases hq
  obtain ⟨l', hl', hR⟩ := hP fl ρ' hp
  obtain ⟨m, Fm, hmm⟩ := st.vars
  obtain ⟨v', _, rv⟩ := hmm p _ hl' (by simp)
  obtain ⟨vs', rfl, _⟩ := list_inv rv
  refine ⟨Z', x, l', st.toBase, r, rv, ⟨fun q o nq e => st.run.keep q o (fun f => by rw [e3] at f; exact nq (hF0 q f)) (e1 ▸ e), fun q o e => st.run.alive q o (e1 ▸ e)⟩, e2 ▸ st.le, fun q o e f => ?_, ?_⟩
  · rcases st.new q o e (e2 ▸ f) with h | h
    · exact e1 ▸ h
    · rw [e3] at h
      have := hF0 q h
      subst this
      have := rv.footZ q (by simp [foot])
      rw [e] at this; cases this
  · rcases hfl with rfl | ⟨rfl, hn⟩
    · exact hR
    · cases fl with
      | ret y => exact absurd rfl (hn y)
      | _ => exact hR

/-- an expression that may write -/
def Ex (c : Cx) (k : Nat) (sc : Scope) (ρ : Rho) (e : Expr) (Q : V → Rho → Prop) : Prop := ∀ fx env A s Z, EnvOk sc env → Room k A → St c fx env Z s ρ →
  wpAny (model c.prog c.w) A (eval e env) (fun v s' => ∃ Z' ρ' x, St c fx env Z' s' ρ' ∧ IRep c Z' v x ∧ Q x ρ') NoE s

section
variable {c : Cx} {k : Nat} {sc : Scope} {ρ : Rho} {P : Fl → Rho → Prop} {pos : Pos}

theorem name_fn {x : Str} {a : Addr} {p : Pos} {env : Env} {A : Around} {s : Shared} {Z : FZ} {Q : Value → Shared → Prop} (ok : CxOk c) (hx : sc.names.lookup x = some .globalImplicit) (hm : c.mg x = some (.ref a)) (hE : EnvOk sc env) (hb : Base c Z s) (h : Q (.ref a) s)
    (hd : (x == ("__debug__" : Str)) = false := by decide) : wpAny (model c.prog c.w) A (eval (.Name x p) env) Q NoE s := by
  have k0 : ∀ b o, c.h₀.get? b = some o → s.heap.get? b = some o := fun b o e => hb.zin b o (hb.base b o e)
  refine Calls.Name_function_global (hE.scope ▸ hE.kind) (by unfold Env.kindOf; rw [hE.scope]; exact hx) ?_ hd
  exact Calls.loadGlobal_global (hE.glob ▸ ok.g.keeps k0) hm h

/-- f(e, ..), a def of the text that writes nothing of ours: what it gives -/
theorem Ev.callR {x : Str} {p : Pos} {d : DefRec} {e : Expr} {es : List Expr} {xs : List V} {R : V → Prop} (ok : CxOk c) (hx : sc.names.lookup x = some .globalImplicit) (hF : FnAt c d) (hn : d.name = x) (ha : EvA c (k + 1) sc ρ (e :: es) xs) (h : PureFn c k d xs R)
    (hpl : (e :: es).all plainE = true := by rfl) (hd : (x == ("__debug__" : Str)) = false := by decide) : Ev c (k + 1) sc ρ (.Call (.Name x p) (e :: es) [] pos) (fun _ _ Z' _ v => ∃ y, IRep c Z' v y ∧ R y) := fun env A s Z hE hA hr => by
  obtain ⟨a, o, pm, code, doc, hm, ho, hdt, hcd⟩ := hF
  subst hn
  refine Call_Name rfl (name_fn ok hx hm hE hr.toBase ?_ hd)
  have hall := hpl
  simp only [List.all_cons, Bool.and_eq_true] at hall
  refine callWith_def hdt (wpAny_mono (ha pos env A s Z hE hA hr) (fun vs s1 ⟨Z1, u1, r1⟩ => ⟨?_, ?_⟩) fun _ _ x => x) (starEach_plain hall.1)
  · exact (hr.up u1).zin _ _ ((hr.up u1).base _ _ ho)
  · exact wpAny_mono (h A s1 Z1 vs a hm hA (hr.up u1).toBase r1) (fun v s' ⟨Z', y, u', r, hR⟩ => ⟨Z', u1.trans u', y, r, hR⟩) fun _ _ x => x
theorem Ev.callU {x : Str} {p : Pos} {d : DefRec} {e : Expr} {es : List Expr} {xs : List V} {y : V} (ok : CxOk c) (hx : sc.names.lookup x = some .globalImplicit) (hF : FnAt c d) (hn : d.name = x) (ha : EvA c (k + 1) sc ρ (e :: es) xs) (h : PureFn c k d xs (· = y))
    (hpl : (e :: es).all plainE = true := by rfl) (hd : (x == ("__debug__" : Str)) = false := by decide) : Ev c (k + 1) sc ρ (.Call (.Name x p) (e :: es) [] pos) (Is c y) :=
  (Ev.callR ok hx hF hn ha h hpl hd).mono fun _ _ _ _ _ _ _ _ ⟨y', r, hy⟩ => by subst hy; exact .imm r

theorem WS.assignR {x : Str} {p : Pos} {e : Expr} {R : V → Prop} (h : Ev c k sc ρ e (fun _ _ Z' _ v => ∃ y, IRep c Z' v y ∧ R y)) (hx : Storable sc x) (hp : ∀ y, R y → P .nrm ((x, y) :: ρ))
    (hsw : ∀ env, swapsWith e (some (.Name x p)) pos.line env = pure false := by intro _; rfl) : WS c k sc (.Assign [.Name x p] e pos) ρ P := fun fx env A s Z hE hA hs => by
  refine wpAny_Assign_Name (wpAny_mono (h env A s Z hE hA hs.rd) (fun v s1 ⟨Z1, u, y, r, hy⟩ => ?_) fun _ _ x => x) (hsw env)
  have hf := imm_foot (h := s1.heap) r
  exact St.store hE hx (hs.up u) (.imm r) (fun a ha => by rw [hf] at ha; cases ha) (fun y W _ _ a ha => by rw [hf] at ha; cases ha) fun h' tk st _ => ⟨Z1, _, .nrm, st, .nrm, hp y hy⟩

/-- f(x, e, ..) where x is a list of our own that f may write -/
theorem Ex.callO {x f : Str} {p p1 : Pos} {d : DefRec} {es : List Expr} {b : Addr} {l rest : List V} {R : V → List V → Prop} (ok : CxOk c) (hf : sc.names.lookup f = some .globalImplicit) (hF : FnAt c d) (hn : d.name = f) (hx : ρ.lookup x = some (.list b l))
    (hk : sc.names.lookup x = some .local ∨ sc.names.lookup x = some .cell) (ha : EvA c (k + 1) sc ρ es rest) (h : OwnFn c k d b l rest R)
    (hd : (f == ("__debug__" : Str)) = false := by decide) (hd' : (x == ("__debug__" : Str)) = false := by decide) (hcd : (x == ("__classdict__" : Str)) = false := by decide) :
    Ex c (k + 1) sc ρ (.Call (.Name f p) (.Name x p1 :: es) [] pos) (fun v ρ' => ∃ l', R v l' ∧ ρ' = (x, .list b l') :: ρ) := fun fx env A s Z hE hA st => by
  obtain ⟨a, o, pm, code, doc, hm, ho, hdt, hcode⟩ := hF
  subst hn
  refine Call_Name rfl (name_fn ok hf hm hE st.toBase ?_ hd)
  refine callWith_def hdt (wpAny_mono ((EvA.cons (Ev.name hx (hk.imp id .inl) (by simp) hd' hcd) ha rfl) pos env A s Z hE hA st.rd) (fun vs s1 ⟨Z1, u1, r1⟩ => ⟨?_, ?_⟩) fun _ _ x => x) rfl
  · exact (st.up u1).zin _ _ ((st.up u1).base _ _ ho)
  · have st1 := st.up u1
    refine wpAny_mono (h A s1 Z1 vs a hm hA st1.toBase r1) (fun v s' ⟨Z', y, l', hB', r, rb, w, le, nw, hR⟩ => ?_) fun _ _ x => x
    refine ⟨Z', _, y, ?_, r, l', hR, rfl⟩
    have nfeet : ∀ z W, z ≠ x → ρ.lookup z = some W → b ∉ foot W := fun z W hz hy hb => st1.apart z x W _ hz hy hx b hb (by simp [foot])
    have nloc : ¬ Loc env b := (st1.feet x _ hx b (by simp [foot])).2
    have keepZ : ∀ q, Z1 q = none → (∃ o, s1.heap.get? q = some o) → Z' q = none := fun q e ⟨o, e'⟩ => by
      cases k : Z' q with
      | none => rfl
      | some o' => rw [nw q o' k e] at e'; cases e'
    refine
      { toBase := hB'
        vars := ?_
        run := ⟨fun q o n e => w.keep q o (fun hq => by
            subst hq
            rcases (st1.feet x _ hx q (by simp [foot])).1 with h1 | h1
            · rw [h1] at e; cases e
            · exact n h1) (st1.run.keep q o n e), fun q o e => let ⟨o', e'⟩ := st1.run.alive q o e; w.alive q o' e'⟩
        le := st1.le.trans le
        new := fun q o e f => by
          cases k : Z1 q with
          | some o' => exact st1.new q o' k f
          | none => exact st1.fresh (nw q o e k)
        locZ := fun q hq => keepZ q (st1.locZ q hq) (st1.locA q hq)
        locM := st1.locM
        locA := fun q hq => let ⟨o, e⟩ := st1.locA q hq; w.alive q o e
        feet := feet_cons st1.feet fun q hq => st1.feet x _ hx q hq
        apart := apart_cons st1.apart fun z W hz hy q hq => st1.apart x z _ W (Ne.symm hz) hx hy q hq }
    obtain ⟨m, F, hmm⟩ := st1.vars
    obtain ⟨vx, ex, rx⟩ := hmm x _ hx (by simp)
    obtain ⟨vsx, rfl, _⟩ := list_inv rx
    refine ⟨m, ⟨?_, fun z hz => ?_⟩, fun z U hz hg => ?_⟩
    · obtain ⟨m0, ⟨o, es, ep, n, r⟩, e⟩ := F.ns
      exact ⟨m0, ⟨o, es, ep, w.keep _ o (fun q => nloc (q ▸ .inl rfl)) n, r⟩, e⟩
    · obtain ⟨a, h1, o, h2, h3⟩ := F.cell z hz
      exact ⟨a, h1, o, w.keep a o (fun q => nloc (q ▸ .inr ⟨z, h1⟩)) h2, h3⟩
    · by_cases q : z = x
      · subst q
        rw [lookup_cons_eq] at hz; cases hz
        exact ⟨_, ex, rb⟩
      · rw [lookup_cons_ne q] at hz
        obtain ⟨v', e', r'⟩ := hmm z U hz hg
        exact ⟨v', e', r'.go le (fun q' hq' o e => w.keep q' o (fun hb => nfeet z U q hz (hb ▸ hq')) e) fun q' hq' => keepZ q' (r'.footZ q' hq') (r'.footIn q' hq')⟩

theorem WS.ex {e : Expr} {Q : V → Rho → Prop} (h : Ex c k sc ρ e Q) (hp : ∀ v ρ', Q v ρ' → v = .none ∧ P .nrm ρ') (hsw : ∀ env, swapsWith e Option.none pos.line env = pure false := by intro _; rfl) : WS c k sc (.Expr e pos) ρ P := fun fx env A s Z hE hA st => by
  refine wpAny_Expr (wpAny_mono (h fx env A s Z hE hA st) (fun v s' ⟨Z', ρ', x, st', r, hq⟩ => ?_) fun _ _ x => x) (by unfold interactive; rw [hE.scope, hE.kind]; rfl) (hsw env)
  obtain ⟨rfl, hP⟩ := hp x ρ' hq
  cases r
  exact ⟨Z', ρ', .nrm, st', .nrm, hP⟩

theorem WS.ifEx {l r : Expr} {op : CmpOp} {p1 : Pos} {yes no : List Stmt} {Q : V → Rho → Prop} (h : Ex c k sc ρ l Q)
    (hc : ∀ x ρ', Q x ρ' → ∃ y b, Ev c k sc ρ' r (Is c y) ∧ CmpOk c op x y b ∧ (b = true → Wp c k sc yes ρ' P) ∧ (b = false → Wp c k sc no ρ' P)) (hm : behindInMarks op r = false := by with_unfolding_all rfl) : WS c k sc (.If (.Compare l [op] [r] p1) yes no pos) ρ P := fun fx env A s Z hE hA st => by
  refine wpAny_If (wpAny_isTrue_Compare1 ?_ hm)
  refine wpAny_mono (h fx env A s Z hE hA st) (fun v s1 ⟨Z1, ρ1, x, st1, r1, hq⟩ => ?_) fun _ _ x => x
  obtain ⟨y, b, he, hcmp, hy, hn⟩ := hc x ρ1 hq
  refine wpAny_mono (he env A s1 Z1 hE hA st1.rd) (fun w s2 ⟨Z2, u2, r2⟩ => ?_) fun _ _ x => x
  have st2 := st1.up u2
  refine wpAny_mono (hcmp A s2 Z2 v w (hA.mono (Nat.zero_le _)) st2.toBase (.imm (r1.mono u2.le)) r2) (fun cv s3 ⟨hcv, kp⟩ => ?_) fun _ _ x => x
  subst hcv
  have st3 := st2.up (Up.same st2.zin kp)
  refine wpAny_truthy_bool ?_
  cases b with
  | true => exact hy rfl fx env A s3 Z2 hE hA st3
  | false => exact hn rfl fx env A s3 Z2 hE hA st3
end
end Mine
end
section
open PySem PySem.W PyProof.Rows
set_option maxRecDepth 100000
set_option maxHeartbeats 8000000
namespace Mine
open_top hd for PySem.Challenge.rw_dj5011_01
end Mine
end
section
open PySem PyProof.Rows PySem.Calls
set_option maxRecDepth 100000
set_option linter.unusedVariables false
namespace Mine
def fdef (i : Nat) : DefRec := match PySem.Challenge.pw_dj5011_01.main.body[i]? with
  | some (.FunctionDef name args body _ _ _ scope _ _ pos) => ⟨name, args, body, scope, pos⟩
  | _ => ⟨"", { posonlyargs := [], args := [], vararg := none, kwonlyargs := [], kw_defaults := [], kwarg := none, defaults := [] }, [], default, default⟩
theorem fmem1 : fdef 1 ∈ recsOf hd.view_39 := List.mem_of_getElem? (i := 0) (by rfl)
theorem fmem2 : fdef 2 ∈ recsOf hd.view_39 := List.mem_of_getElem? (i := 1) (by rfl)
theorem fmem3 : fdef 3 ∈ recsOf hd.view_39 := List.mem_of_getElem? (i := 2) (by rfl)
theorem fmem4 : fdef 4 ∈ recsOf hd.view_39 := List.mem_of_getElem? (i := 3) (by rfl)
theorem fmem5 : fdef 5 ∈ recsOf hd.view_39 := List.mem_of_getElem? (i := 4) (by rfl)
theorem fmem6 : fdef 6 ∈ recsOf hd.view_39 := List.mem_of_getElem? (i := 5) (by rfl)
theorem fmem7 : fdef 7 ∈ recsOf hd.view_39 := List.mem_of_getElem? (i := 6) (by rfl)
theorem fmem8 : fdef 8 ∈ recsOf hd.view_39 := List.mem_of_getElem? (i := 7) (by rfl)
theorem fmem11 : fdef 11 ∈ recsOf hd.view_39 := List.mem_of_getElem? (i := 8) (by rfl)
theorem fmem12 : fdef 12 ∈ recsOf hd.view_39 := List.mem_of_getElem? (i := 9) (by rfl)
theorem fmem13 : fdef 13 ∈ recsOf hd.view_39 := List.mem_of_getElem? (i := 10) (by rfl)
theorem fmem14 : fdef 14 ∈ recsOf hd.view_39 := List.mem_of_getElem? (i := 11) (by rfl)
theorem fmem15 : fdef 15 ∈ recsOf hd.view_39 := List.mem_of_getElem? (i := 12) (by rfl)
theorem fmem16 : fdef 16 ∈ recsOf hd.view_39 := List.mem_of_getElem? (i := 13) (by rfl)
theorem fmem17 : fdef 17 ∈ recsOf hd.view_39 := List.mem_of_getElem? (i := 14) (by rfl)
theorem fmem18 : fdef 18 ∈ recsOf hd.view_39 := List.mem_of_getElem? (i := 15) (by rfl)
end Mine
end
section
open PySem PyProof.Rows PySem.Calls
set_option maxRecDepth 10000
set_option linter.unusedVariables false
namespace Mine
def K (c : Cx) (k : Nat) (sc : Scope) (rest : List Stmt) (P : Fl → Rho → Prop) : Fl → Rho → Prop := fun fl ρ => match fl with
  | .nrm => Wp c k sc rest ρ P
  | f => P f ρ
theorem Wp.seq {c : Cx} {k : Nat} {sc : Scope} {st : Stmt} {rest : List Stmt} {ρ : Rho} {P : Fl → Rho → Prop} (h : WS c k sc st ρ (K c k sc rest P)) : Wp c k sc (st :: rest) ρ P :=
  Wp.cons h (fun ρ' h => h) (fun fl ρ' hne h => by cases fl <;> first | exact absurd rfl hne | exact h)

structure Ground (c : Cx) : Prop where
  ok : CxOk c
  fn : ∀ i, i ∈ [1, 2, 3, 4, 5, 6, 7, 8, 11, 12, 13, 14, 15, 16, 17] → FnAt c (fdef i)
  bi : ∀ x ∈ (["len", "sum", "range", "min", "max", "list", "sorted", "reversed", "IndexError"] : List Str), c.mg x = none
  seeds : ∃ a ws, c.mg "_law_SEEDS" = some (.ref a) ∧ c.h₀.IsTuple a (List.toArray ws) ∧ IntsAre ws [7, 23, 39]

def vlt (x y : V) : Bool := (vLt x y).getD false
def Cmp (S : V → Prop) : Prop := (∀ x, S x → foot x = [] ∧ x ≠ .gone) ∧ ∀ x y, S x → S y → vLt x y = some (vlt x y)

def stB (sc : Scope) (x : Str) : Bool := sc.names.lookup x == some .local || sc.names.lookup x == some .cell
theorem stB_ok {sc : Scope} {x : Str} (h : stB sc x = true) : Storable sc x := by
  unfold stB at h
  simpa [Storable] using h
def sigB (d : DefRec) (ps : List Str) : Bool := decide ps.Nodup && d.scope.kind == .function && ps.all (stB d.scope) && !d.scope.isCoroutine && !d.scope.isGenerator && d.scope.names.all (fun p => p.2 != .free)
theorem Sig.of {d : DefRec} {ps : List Str} (h : sigB d ps = true) (hb : ∀ pm code doc vs, vs.length = ps.length → bindArgs (docDef d.name d.params d.body d.scope pm code doc) ⟨vs, []⟩ = pure (ps.zip vs)) : Sig d ps := by
  unfold sigB at h
  simp only [Bool.and_eq_true, decide_eq_true_eq, List.all_eq_true, beq_iff_eq, Bool.not_eq_true', bne_iff_ne, ne_eq] at h
  obtain ⟨⟨⟨⟨⟨h1, h2⟩, h3⟩, h4⟩, h5⟩, h6⟩ := h
  exact ⟨hb, h1, h2, fun p hp => stB_ok (h3 p hp), h4, h5, fun x hx => h6 _ (mem_of_lookup hx) rfl, fun x hx => mem_of_lookup hx⟩
theorem sig5 : Sig (fdef 5) ["heap", "startpos", "pos"] := Sig.of (by decide +kernel) fun pm code doc vs h => by
  match vs, h with
  | [a, b, d], _ => rfl

def sdown (lt : V → V → Bool) : Nat → List V → V → Nat → Nat → List V
  | 0, l, x, s, p => l.set p x
  | f + 1, l, x, s, p => if s < p then (if lt x (l.getD ((p - 1) / 2) .none) then sdown lt f (l.set p (l.getD ((p - 1) / 2) .none)) x s ((p - 1) / 2) else l.set p x) else l.set p x

def kB (sc : Scope) (x : Str) : Bool := sc.names.lookup x == some .local || sc.names.lookup x == some .cell || sc.names.lookup x == some .free
theorem Ev.v {c : Cx} {k : Nat} {sc : Scope} {ρ : Rho} {pos : Pos} {x : Str} {V : V} (h : ρ.lookup x = some V) (hk : kB sc x = true := by rfl) (hg : V ≠ .gone := by simp)
    (hd : (x == ("__debug__" : Str)) = false := by decide) (hcd : (x == ("__classdict__" : Str)) = false := by decide) : Ev c k sc ρ (.Name x pos) (Is c V) := by
  unfold kB at hk
  simp only [Bool.or_eq_true, beq_iff_eq] at hk
  exact Ev.name h (by rcases hk with (h | h) | h <;> simp [h]) hg hd hcd
theorem wn {c : Cx} {k : Nat} {sc : Scope} {rest : List Stmt} {ρ : Rho} {P : Fl → Rho → Prop} (h : Wp c k sc rest ρ P) : K c k sc rest P .nrm ρ := h

theorem IntOp.shr1 {n : Nat} (hn : 1 ≤ n) : IntOp .RShift ((n : Int) - 1) 1 (((n - 1) / 2 : Nat) : Int) := by
  have e : ((n : Int) - 1).fdiv (2 ^ (1 : Int).toNat) = ((n - 1) / 2 : Nat) := by
    show ((n : Int) - 1).fdiv 2 = _
    rw [Int.fdiv_eq_ediv_of_nonneg _ (by omega)]; omega
  rw [← e]
  intro prog w A E s t u Q hq
  exact IntOp.shr ((n : Int) - 1) 1 (by omega) hq

theorem w5 {c : Cx} (G : Ground c) {S : V → Prop} (hS : Cmp S) {a : Addr} {l : List V} {s p : Nat} (hl : ∀ x ∈ l, S x) (hp : p < l.length) (hlen : l.length ≤ 2 ^ 19) :
    OwnFn c 0 (fdef 5) a l [.int s, .int p] (fun x l' => x = .none ∧ l' = sdown vlt (p + 1) l (l.getD p .none) s p) := by
  refine OwnFn.of (ps := ["startpos", "pos"]) G.ok sig5 rfl (G.fn 5 (by simp)) (by simp [foot]) (P := fun fl ρ' => fl = .nrm ∧ ρ'.lookup ("heap" : Str) = some (.list a (sdown vlt (p + 1) l (l.getD p .none) s p))) ?_ (fun fl ρ' ⟨h1, h2⟩ => ⟨_, h2, by subst h1; exact ⟨rfl, rfl⟩⟩)
  generalize hx : l.getD p .none = x
  have hSx : S x := hx ▸ hl _ (by simp [hp])
  have fx := hS.1 x hSx
  generalize hR : sdown vlt (p + 1) l x s p = R
  refine Wp.seq (WS.assign (V := x) (Ev.subL (n := p) (Ev.v (V := .list a l) rfl) (Ev.v rfl) rfl rfl (by rw [← hx]; simp [hp]) (by omega)) fx.1 (.inl rfl) (wn ?_))
  have tail : ∀ (l' : List V) (n : Nat) ρ'', Sub [("heap", .list a l'), ("startpos", .int s), ("pos", .int n), ("newitem", x)] ρ'' → n < l'.length → l'.length ≤ 2 ^ 19 → l'.set n x = R → Wp c 0 (fdef 5).scope ((fdef 5).body.drop 2) ρ'' (fun fl ρ' => fl = .nrm ∧ ρ'.lookup ("heap" : Str) = some (.list a R)) := fun l' n ρ'' hs hn hlen' hr =>
    Wp.sub hs (Wp.seq (WS.setL (n := n) (a := a) (l := l') rfl (.inl rfl) (Ev.v rfl rfl fx.2) (Ev.v rfl) rfl hn (by omega) fx.1 fx.2 (wn (Wp.nil ⟨rfl, by rw [← hr]; rfl⟩))))
  refine Wp.seq (WS.while_ (fun n ρ' => ∃ f l', Sub [("heap", .list a l'), ("startpos", .int s), ("pos", .int n), ("newitem", x)] ρ' ∧ n < l'.length ∧ l'.length ≤ 2 ^ 19 ∧ (∀ x ∈ l', S x) ∧ n < f ∧ sdown vlt f l' x s n = R) p
    ⟨p + 1, l, .cons rfl (.cons rfl (.cons rfl (.cons rfl .nil))), hp, hlen, hl, by omega, hR⟩ ?_)
  rintro n ρ' ⟨f, l', hsub, hn, hlen', hl', hf, hR'⟩
  obtain ⟨f, rfl⟩ : ∃ g, f = g + 1 := ⟨f - 1, by omega⟩
  unfold sdown at hR'
  refine ⟨_, Tst.cmp (Ev.v (hsub _ _ rfl)) (Ev.v (hsub _ _ rfl)) (CmpOk.igt _ _), fun hb => Wp.sub hsub ?_, fun hb => wn (tail l' n ρ' hsub hn hlen' ?_)⟩
  · have hsn : s < n := by simpa using hb
    have hpp : (n - 1) / 2 < l'.length := by omega
    rw [if_pos hsn] at hR'
    generalize hy : l'.getD ((n - 1) / 2) .none = y at hR'
    have hSy : S y := hy ▸ hl' _ (by simp [hpp])
    have fy := hS.1 y hSy
    refine Wp.seq (WS.assign (V := .int ((n - 1) / 2 : Nat)) (Ev.iop (Ev.iop (Ev.v rfl) (Ev.int 1 _) (IntOp.sub _ _)) (Ev.int 1 _) (IntOp.shr1 (by omega))) rfl (.inl rfl) (wn ?_))
    refine Wp.seq (WS.assign (V := y) (Ev.subL (n := (n - 1) / 2) (Ev.v (V := .list a l') rfl) (Ev.v rfl) rfl rfl (by rw [← hy]; simp [hpp]) (by omega)) fy.1 (.inl rfl) (wn ?_))
    refine Wp.seq (WS.if_ (Tst.cmp (Ev.v rfl rfl fx.2) (Ev.v rfl rfl fy.2) (CmpOk.lt (hS.2 x y hSx hSy))) (fun hlt => ?_) fun hlt => Wp.nil (wn (Wp.seq (WS.brk (wn (tail l' n _ (.cons rfl (.cons rfl (.cons rfl (.cons rfl .nil)))) hn hlen' ?_))))))
    · refine Wp.seq (WS.setL (n := n) (a := a) (l := l') rfl (.inl rfl) (Ev.v rfl rfl fy.2) (Ev.v rfl) rfl hn (by omega) fy.1 fy.2 (wn ?_))
      refine Wp.seq (WS.assign (Ev.v rfl) rfl (.inl rfl) (wn (Wp.seq (WS.cnt ?_))))
      refine ⟨(n - 1) / 2, by omega, f, l'.set n y, .cons rfl (.cons rfl (.cons rfl (.cons rfl .nil))), by simpa using hpp, by simpa using hlen', fun z hz => ?_, by omega, ?_⟩
      · rcases List.mem_or_eq_of_mem_set hz with h | h
        · exact hl' z h
        · exact h ▸ hSy
      · rw [hlt, if_pos rfl] at hR'
        exact hR'
    · rw [hlt, if_neg (by simp)] at hR'; exact hR'
  · have hsn : ¬ s < n := by simpa using hb
    rw [if_neg hsn] at hR'; exact hR'
end Mine
end
section
open PySem PyProof.Rows PySem.Calls
set_option maxRecDepth 10000
set_option linter.unusedVariables false
namespace Mine
theorem mulOk {a b : Int} (h : a.natAbs < 2 ^ 60 ∨ b.natAbs < 2 ^ 60) : IntMulOk a b := by
  rcases h with h | h
  · exact .of_left (intBits_le (k := 64) (by omega))
  · exact .of_right (intBits_le (k := 64) (by omega))
theorem noPylong {a b : Int} (h : b.natAbs < 2 ^ 60) : Builtin.divisionGoesByPylong a b = false := by
  have hb : (if b == 0 then 0 else b.natAbs.log2 / 30 + 1) ≤ 3 := by
    split
    · omega
    · have : b.natAbs.log2 < 60 := (Nat.log2_lt (by simp_all)).mpr h
      omega
  unfold Builtin.divisionGoesByPylong
  have : ¬ (if b == 0 then 0 else b.natAbs.log2 / 30 + 1) > 300 := by omega
  simp only [decide_eq_false this, Bool.false_and]
theorem IntOp.pow {a b : Int} (h0 : 0 ≤ b) (h1 : b ≤ 1000000) (ha : a.natAbs < 2 ^ 64) : IntOp .Pow a b (a ^ b.toNat) := fun h => pow_int_small h0 h1 ha h
theorem IntOp.mulS (a b : Int) (h : a.natAbs < 2 ^ 60 ∨ b.natAbs < 2 ^ 60) : IntOp .Mult a b (a * b) := fun hq => mul_int hq (mulOk h)
theorem IntOp.div (a b : Int) (h0 : 0 < b) (h : b < 2 ^ 60) : IntOp .FloorDiv a b (a / b) := by
  intro prog w A E s t u Q hq
  rw [← Int.fdiv_eq_ediv_of_nonneg a (by omega)] at hq
  exact IntOp.fdiv a b (by omega) (noPylong (by omega)) hq
theorem IntOp.mod (a b : Int) (h0 : 0 < b) : IntOp .Mod a b (a % b) := by
  intro prog w A E s t u Q hq
  rw [← Int.fmod_eq_emod_of_nonneg a (by omega)] at hq
  exact IntOp.fmod a b (by omega) hq

section
variable {c : Cx} {k : Nat} {sc : Scope} {ρ : Rho} {pos p : Pos}
theorem Ev.len {e : Expr} {x : V} {l : List V} (G : Ground c) (he : Ev c k sc ρ e (Is c x)) (h : x.items = some l) (hl : l.length ≤ 2 ^ 20) (hx : sc.names.lookup ("len" : Str) = some .globalImplicit := by rfl) (hpl : plainE e = true := by rfl) : Ev c k sc ρ (.Call (.Name "len" p) [e] [] pos) (Is c (.int l.length)) :=
  Ev.callB G.ok hx (G.bi _ (by simp)) (show bootBuiltins "len" = some (.builtin "len") by decide +kernel) (.inl ⟨_, rfl⟩) (EvA.cons he EvA.nil hpl) (CallOk.len h hl) Pre.is (by simp [hpl])
theorem Ev.sum {e : Expr} {x : V} {ns : List Int} (G : Ground c) (he : Ev c k sc ρ e (Is c x)) (h : x.items = some (ns.map V.int)) (hx : sc.names.lookup ("sum" : Str) = some .globalImplicit := by rfl) (hpl : plainE e = true := by rfl) : Ev c k sc ρ (.Call (.Name "sum" p) [e] [] pos) (Is c (.int ns.sum)) :=
  Ev.callB G.ok hx (G.bi _ (by simp)) (show bootBuiltins "sum" = some (.builtin "sum") by decide +kernel) (.inl ⟨_, rfl⟩) (EvA.cons he EvA.nil hpl) (CallOk.sum h) Pre.is (by simp [hpl])
theorem Ev.range1 {e : Expr} {n : Int} (G : Ground c) (he : Ev c k sc ρ e (Is c (.int n))) (hx : sc.names.lookup ("range" : Str) = some .globalImplicit := by rfl) (hpl : plainE e = true := by rfl) : Ev c k sc ρ (.Call (.Name "range" p) [e] [] pos) (Is c (.rng 0 n)) :=
  Ev.callB G.ok hx (G.bi _ (by simp)) (show bootBuiltins "range" = some (.type "range") by decide +kernel) (.inr ⟨_, rfl⟩) (EvA.cons he EvA.nil hpl) (CallOk.range1 n) Pre.is (by simp [hpl])
theorem Ev.range2 {e f : Expr} {a n : Int} (G : Ground c) (he : Ev c k sc ρ e (Is c (.int a))) (hf : Ev c k sc ρ f (Is c (.int n))) (hx : sc.names.lookup ("range" : Str) = some .globalImplicit := by rfl) (hpl : plainE e = true := by rfl) (hpl' : plainE f = true := by rfl) : Ev c k sc ρ (.Call (.Name "range" p) [e, f] [] pos) (Is c (.rng a n)) :=
  Ev.callB G.ok hx (G.bi _ (by simp)) (show bootBuiltins "range" = some (.type "range") by decide +kernel) (.inr ⟨_, rfl⟩) (EvA.cons he (EvA.cons hf EvA.nil hpl') hpl) (CallOk.range2 a n) Pre.is (by simp [hpl, hpl'])
theorem Ev.min2 {e f : Expr} {a b : Int} (G : Ground c) (he : Ev c k sc ρ e (Is c (.int a))) (hf : Ev c k sc ρ f (Is c (.int b))) (hx : sc.names.lookup ("min" : Str) = some .globalImplicit := by rfl) (hpl : plainE e = true := by rfl) (hpl' : plainE f = true := by rfl) : Ev c k sc ρ (.Call (.Name "min" p) [e, f] [] pos) (Is c (.int (if b < a then b else a))) :=
  Ev.callB G.ok hx (G.bi _ (by simp)) (show bootBuiltins "min" = some (.builtin "min") by decide +kernel) (.inl ⟨_, rfl⟩) (EvA.cons he (EvA.cons hf EvA.nil hpl') hpl) (CallOk.min2 a b) Pre.is (by simp [hpl, hpl'])
theorem Ev.max2 {e f : Expr} {a b : Int} (G : Ground c) (he : Ev c k sc ρ e (Is c (.int a))) (hf : Ev c k sc ρ f (Is c (.int b))) (hx : sc.names.lookup ("max" : Str) = some .globalImplicit := by rfl) (hpl : plainE e = true := by rfl) (hpl' : plainE f = true := by rfl) : Ev c k sc ρ (.Call (.Name "max" p) [e, f] [] pos) (Is c (.int (if b > a then b else a))) :=
  Ev.callB G.ok hx (G.bi _ (by simp)) (show bootBuiltins "max" = some (.builtin "max") by decide +kernel) (.inl ⟨_, rfl⟩) (EvA.cons he (EvA.cons hf EvA.nil hpl') hpl) (CallOk.max2 a b) Pre.is (by simp [hpl, hpl'])
end

def inner (b : List Stmt) (j : Nat) : List Stmt := match b[j]? with
  | some (.While _ x _ _) => x
  | some (.For _ _ x _ _) => x
  | some (.If _ x _ _) => x
  | _ => []
def sup (lt : V → V → Bool) : Nat → List V → Nat → List V × Nat
  | 0, l, p => (l, p)
  | f + 1, l, p => if 2 * p + 1 < l.length then
      (if 2 * p + 2 < l.length ∧ lt (l.getD (2 * p + 1) .none) (l.getD (2 * p + 2) .none) = false then sup lt f (l.set p (l.getD (2 * p + 2) .none)) (2 * p + 2) else sup lt f (l.set p (l.getD (2 * p + 1) .none)) (2 * p + 1))
    else (l, p)
def sift (lt : V → V → Bool) (l : List V) (p : Nat) : List V :=
  let r := sup lt l.length l p
  sdown lt (r.2 + 1) (r.1.set r.2 (l.getD p .none)) (l.getD p .none) p r.2
theorem sup_len (lt : V → V → Bool) : ∀ f l p, p < l.length → (sup lt f l p).1.length = l.length ∧ (sup lt f l p).2 < l.length
  | 0, l, p, h => ⟨rfl, h⟩
  | f + 1, l, p, h => by
    unfold sup
    split
    · split
      · rename_i h1 h2
        have := sup_len lt f (l.set p (l.getD (2 * p + 2) .none)) (2 * p + 2) (by simpa using h2.1)
        simpa using this
      · rename_i h1 h2
        have := sup_len lt f (l.set p (l.getD (2 * p + 1) .none)) (2 * p + 1) (by simpa using h1)
        simpa using this
    · exact ⟨rfl, h⟩
theorem sdown_len (lt : V → V → Bool) (x : V) (s : Nat) : ∀ f l p, (sdown lt f l x s p).length = l.length
  | 0, l, p => by simp [sdown]
  | f + 1, l, p => by
    unfold sdown
    split
    · split
      · rw [sdown_len]; simp
      · simp
    · simp
theorem mem_set_S {S : V → Prop} {l : List V} (hl : ∀ x ∈ l, S x) {y : V} (hy : S y) (n : Nat) : ∀ z ∈ l.set n y, S z := fun z hz => by
  rcases List.mem_or_eq_of_mem_set hz with h | h
  · exact hl z h
  · exact h ▸ hy
theorem getD_S {S : V → Prop} {l : List V} (hl : ∀ x ∈ l, S x) {n : Nat} (h : n < l.length) : S (l.getD n .none) := hl _ (by simp [h])
theorem getD_at {l : List V} {n : Nat} (h : n < l.length) : l[n]? = some (l.getD n .none) := by simp [h]

def vgt (x y : V) : Bool := vlt y x
theorem OwnFn.up {c : Cx} {k j : Nat} {d : DefRec} {b : Addr} {l rest : List V} {R : V → List V → Prop} (h : OwnFn c k d b l rest R) (hk : k ≤ j := by omega) : OwnFn c j d b l rest R := fun A s Z vs a hm hA => h A s Z vs a hm (hA.mono (by omega))
theorem PureFn.up {c : Cx} {k j : Nat} {d : DefRec} {xs : List V} {R : V → Prop} (h : PureFn c k d xs R) (hk : k ≤ j := by omega) : PureFn c j d xs R := fun A s Z vs a hm hA => h A s Z vs a hm (hA.mono (by omega))

theorem sig7 : Sig (fdef 7) ["heap", "startpos", "pos"] := Sig.of (by decide +kernel) fun pm code doc vs h => by
  match vs, h with
  | [a, b, d], _ => rfl
theorem w7 {c : Cx} (G : Ground c) {S : V → Prop} (hS : Cmp S) {a : Addr} {l : List V} {s p : Nat} (hl : ∀ x ∈ l, S x) (hp : p < l.length) (hlen : l.length ≤ 2 ^ 19) :
    OwnFn c 0 (fdef 7) a l [.int s, .int p] (fun x l' => x = .none ∧ l' = sdown vgt (p + 1) l (l.getD p .none) s p) := by
  refine OwnFn.of (ps := ["startpos", "pos"]) G.ok sig7 rfl (G.fn 7 (by simp)) (by simp [foot]) (P := fun fl ρ' => fl = .nrm ∧ ρ'.lookup ("heap" : Str) = some (.list a (sdown vgt (p + 1) l (l.getD p .none) s p))) ?_ (fun fl ρ' ⟨h1, h2⟩ => ⟨_, h2, by subst h1; exact ⟨rfl, rfl⟩⟩)
  generalize hx : l.getD p .none = x
  have hSx : S x := hx ▸ hl _ (by simp [hp])
  have fx := hS.1 x hSx
  generalize hR : sdown vgt (p + 1) l x s p = R
  refine Wp.seq (WS.assign (V := x) (Ev.subL (n := p) (Ev.v (V := .list a l) rfl) (Ev.v rfl) rfl rfl (by rw [← hx]; simp [hp]) (by omega)) fx.1 (.inl rfl) (wn ?_))
  have tail : ∀ (l' : List V) (n : Nat) ρ'', Sub [("heap", .list a l'), ("startpos", .int s), ("pos", .int n), ("newitem", x)] ρ'' → n < l'.length → l'.length ≤ 2 ^ 19 → l'.set n x = R → Wp c 0 (fdef 7).scope ((fdef 7).body.drop 2) ρ'' (fun fl ρ' => fl = .nrm ∧ ρ'.lookup ("heap" : Str) = some (.list a R)) := fun l' n ρ'' hs hn hlen' hr =>
    Wp.sub hs (Wp.seq (WS.setL (n := n) (a := a) (l := l') rfl (.inl rfl) (Ev.v rfl rfl fx.2) (Ev.v rfl) rfl hn (by omega) fx.1 fx.2 (wn (Wp.nil ⟨rfl, by rw [← hr]; rfl⟩))))
  refine Wp.seq (WS.while_ (fun n ρ' => ∃ f l', Sub [("heap", .list a l'), ("startpos", .int s), ("pos", .int n), ("newitem", x)] ρ' ∧ n < l'.length ∧ l'.length ≤ 2 ^ 19 ∧ (∀ x ∈ l', S x) ∧ n < f ∧ sdown vgt f l' x s n = R) p
    ⟨p + 1, l, .cons rfl (.cons rfl (.cons rfl (.cons rfl .nil))), hp, hlen, hl, by omega, hR⟩ ?_)
  rintro n ρ' ⟨f, l', hsub, hn, hlen', hl', hf, hR'⟩
  obtain ⟨f, rfl⟩ : ∃ g, f = g + 1 := ⟨f - 1, by omega⟩
  unfold sdown at hR'
  refine ⟨_, Tst.cmp (Ev.v (hsub _ _ rfl)) (Ev.v (hsub _ _ rfl)) (CmpOk.igt _ _), fun hb => Wp.sub hsub ?_, fun hb => wn (tail l' n ρ' hsub hn hlen' ?_)⟩
  · have hsn : s < n := by simpa using hb
    have hpp : (n - 1) / 2 < l'.length := by omega
    rw [if_pos hsn] at hR'
    generalize hy : l'.getD ((n - 1) / 2) .none = y at hR'
    have hSy : S y := hy ▸ hl' _ (by simp [hpp])
    have fy := hS.1 y hSy
    refine Wp.seq (WS.assign (V := .int ((n - 1) / 2 : Nat)) (Ev.iop (Ev.iop (Ev.v rfl) (Ev.int 1 _) (IntOp.sub _ _)) (Ev.int 1 _) (IntOp.shr1 (by omega))) rfl (.inl rfl) (wn ?_))
    refine Wp.seq (WS.assign (V := y) (Ev.subL (n := (n - 1) / 2) (Ev.v (V := .list a l') rfl) (Ev.v rfl) rfl rfl (by rw [← hy]; simp [hpp]) (by omega)) fy.1 (.inl rfl) (wn ?_))
    refine Wp.seq (WS.if_ (Tst.cmp (Ev.v rfl rfl fy.2) (Ev.v rfl rfl fx.2) (CmpOk.lt (hS.2 y x hSy hSx))) (fun hlt => ?_) fun hlt => Wp.nil (wn (Wp.seq (WS.brk (wn (tail l' n _ (.cons rfl (.cons rfl (.cons rfl (.cons rfl .nil)))) hn hlen' ?_))))))
    · refine Wp.seq (WS.setL (n := n) (a := a) (l := l') rfl (.inl rfl) (Ev.v rfl rfl fy.2) (Ev.v rfl) rfl hn (by omega) fy.1 fy.2 (wn ?_))
      refine Wp.seq (WS.assign (Ev.v rfl) rfl (.inl rfl) (wn (Wp.seq (WS.cnt ?_))))
      refine ⟨(n - 1) / 2, by omega, f, l'.set n y, .cons rfl (.cons rfl (.cons rfl (.cons rfl .nil))), by simpa using hpp, by simpa using hlen', mem_set_S hl' hSy n, by omega, ?_⟩
      rw [show vgt x y = true from hlt, if_pos rfl] at hR'
      exact hR'
    · rw [show vgt x y = false from hlt, if_neg (by simp)] at hR'; exact hR'
  · have hsn : ¬ s < n := by simpa using hb
    rw [if_neg hsn] at hR'; exact hR'

theorem sig6 : Sig (fdef 6) ["heap", "pos"] := Sig.of (by decide +kernel) fun pm code doc vs h => by
  match vs, h with
  | [a, b], _ => rfl
theorem w6 {c : Cx} (G : Ground c) {S : V → Prop} (hS : Cmp S) {a : Addr} {l : List V} {p : Nat} (hl : ∀ x ∈ l, S x) (hp : p < l.length) (hlen : l.length ≤ 2 ^ 18) :
    OwnFn c 1 (fdef 6) a l [.int p] (fun x l' => x = .none ∧ l' = sift vlt l p) := by
  refine OwnFn.of (ps := ["pos"]) G.ok sig6 rfl (G.fn 6 (by simp)) (by simp [foot]) (P := fun fl ρ' => fl = .nrm ∧ ρ'.lookup ("heap" : Str) = some (.list a (sift vlt l p))) ?_ (fun fl ρ' ⟨h1, h2⟩ => ⟨_, h2, by subst h1; exact ⟨rfl, rfl⟩⟩)
  generalize hR : sift vlt l p = R
  unfold sift at hR
  generalize hx : l.getD p .none = x at hR
  have hSx : S x := hx ▸ hl _ (by simp [hp])
  have fx := hS.1 x hSx
  refine Wp.seq (WS.assign (Ev.len G (Ev.v (V := .list a l) rfl) rfl (by omega)) rfl (.inl rfl) (wn ?_))
  refine Wp.seq (WS.assign (Ev.v rfl) rfl (.inl rfl) (wn ?_))
  refine Wp.seq (WS.assign (V := x) (Ev.subL (n := p) (Ev.v (V := .list a l) rfl) (Ev.v rfl) rfl rfl (by rw [← hx]; simp [hp]) (by omega)) fx.1 (.inl rfl) (wn ?_))
  refine Wp.seq (WS.assign (Ev.iop (Ev.iop (Ev.int 2 _) (Ev.v rfl) (IntOp.mulS _ _ (.inl (by decide)))) (Ev.int 1 _) (IntOp.add _ _)) rfl (.inl rfl) (wn ?_))
  generalize hr : sup vlt l.length l p = r at hR
  have tail : ∀ (l' : List V) (n : Nat) ρ'', Sub [("heap", .list a l'), ("startpos", .int p), ("pos", .int n), ("newitem", x)] ρ'' → n < l'.length → l'.length ≤ 2 ^ 18 → (∀ x ∈ l', S x) → sdown vlt (n + 1) (l'.set n x) x p n = R → Wp c 1 (fdef 6).scope ((fdef 6).body.drop 5) ρ'' (fun fl ρ' => fl = .nrm ∧ ρ'.lookup ("heap" : Str) = some (.list a R)) := fun l' n ρ'' hs hn hlen' hSl hr => by
    refine Wp.sub hs (Wp.seq (WS.setL (n := n) (a := a) (l := l') rfl (.inl rfl) (Ev.v rfl rfl fx.2) (Ev.v rfl) rfl hn (by omega) fx.1 fx.2 (wn ?_)))
    refine Wp.seq (WS.ex (Ex.callO (b := a) (l := l'.set n x) (rest := [.int p, .int n]) G.ok rfl (G.fn 5 (by simp)) rfl rfl (.inl rfl) (EvA.cons (Ev.v rfl) (EvA.cons (Ev.v rfl) EvA.nil)) (OwnFn.up (w5 G hS (mem_set_S hSl hSx n) (by simpa using hn) (by simp; omega)))) ?_)
    rintro v ρ' ⟨l'', ⟨rfl, rfl⟩, rfl⟩
    refine ⟨rfl, wn (Wp.nil ⟨rfl, ?_⟩)⟩
    rw [show (l'.set n x).getD n .none = x by simp [hn], hr]; rfl
  refine Wp.seq (WS.while_ (fun m ρ' => ∃ (n f : Nat) (l' : List V) (jp jc : Int), jp = (n : Int) ∧ jc = 2 * (n : Int) + 1 ∧ m = l.length - n ∧ Sub [("heap", .list a l'), ("startpos", .int p), ("pos", .int jp), ("newitem", x), ("endpos", .int l.length), ("childpos", .int jc)] ρ' ∧ n < l'.length ∧ l'.length = l.length ∧ (∀ x ∈ l', S x) ∧ l.length - n ≤ f ∧ sup vlt f l' n = r) (l.length - p)
    ⟨p, l.length, l, _, _, rfl, rfl, rfl, .cons rfl (.cons rfl (.cons rfl (.cons rfl (.cons rfl (.cons rfl .nil))))), hp, rfl, hl, by omega, hr⟩ ?_)
  rintro m ρ' ⟨n, f, l', _, _, rfl, rfl, rfl, hsub, hn, hlen', hl', hf, hr'⟩
  obtain ⟨f, rfl⟩ : ∃ g, f = g + 1 := ⟨f - 1, by omega⟩
  unfold sup at hr'
  refine ⟨_, Tst.cmp (Ev.v (hsub _ _ rfl)) (Ev.v (hsub _ _ rfl)) (CmpOk.ilt _ _), fun hb => Wp.sub hsub ?_, fun hb => wn (tail l' n ρ' (Sub.trans (.cons rfl (.cons rfl (.cons rfl (.cons rfl .nil)))) hsub) hn (by omega) hl' ?_)⟩
  · have hcn : 2 * n + 1 < l'.length := by rw [hlen']; have := of_decide_eq_true hb; omega
    rw [if_pos hcn] at hr'
    refine Wp.seq (WS.assign (Ev.iop (Ev.v rfl) (Ev.int 1 _) (IntOp.add _ _)) rfl (.inl rfl) (wn ?_))
    have rest : ∀ (Q : Fl → Rho → Prop) (q : Nat) (j : Int) ρ'', j = (q : Int) → Sub [("heap", .list a l'), ("startpos", .int p), ("pos", .int n), ("newitem", x), ("endpos", .int l.length), ("childpos", .int j)] ρ'' → q < l'.length → n < q → sup vlt f (l'.set n (l'.getD q .none)) q = r →
        (∀ ρ', (∃ m, m < l.length - n ∧ ∃ (n f : Nat) (l' : List V) (jp jc : Int), jp = (n : Int) ∧ jc = 2 * (n : Int) + 1 ∧ m = l.length - n ∧ Sub [("heap", .list a l'), ("startpos", .int p), ("pos", .int jp), ("newitem", x), ("endpos", .int l.length), ("childpos", .int jc)] ρ' ∧ n < l'.length ∧ l'.length = l.length ∧ (∀ x ∈ l', S x) ∧ l.length - n ≤ f ∧ sup vlt f l' n = r) → Q .nrm ρ') →
        Wp c 1 (fdef 6).scope ((inner (fdef 6).body 4).drop 2) ρ'' Q := fun Q q j ρ'' hj hs hq hnq hrq hQ => by
      have fq := hS.1 _ (getD_S hl' hq)
      refine Wp.sub hs (Wp.seq (WS.setL (n := n) (a := a) (l := l') rfl (.inl rfl) (Ev.subL (n := q) (Ev.v (V := .list a l') rfl) (Ev.v rfl) rfl hj (getD_at hq) (by omega)) (Ev.v rfl) rfl hn (by omega) fq.1 fq.2 (wn ?_)))
      refine Wp.seq (WS.assign (Ev.v rfl) rfl (.inl rfl) (wn ?_))
      refine Wp.seq (WS.assign (Ev.iop (Ev.iop (Ev.int 2 _) (Ev.v rfl) (IntOp.mulS _ _ (.inl (by decide)))) (Ev.int 1 _) (IntOp.add _ _)) rfl (.inl rfl) (wn (Wp.nil (hQ _ ?_))))
      exact ⟨l.length - q, by omega, q, f, l'.set n (l'.getD q .none), j, 2 * j + 1, hj, by rw [hj], rfl, .cons rfl (.cons rfl (.cons rfl (.cons rfl (.cons rfl (.cons rfl .nil))))), by simpa using hq, by simpa using hlen', mem_set_S hl' (getD_S hl' hq) n, by omega, hrq⟩
    refine Wp.seq (WS.if_ (b := decide ((2 * (n : Int) + 1 + 1) < (l.length : Int)) && !(vlt (l'.getD (2 * n + 1) .none) (l'.getD (2 * n + 2) .none))) (Tst.and (Tst.cmp (Ev.v rfl) (Ev.v rfl) (CmpOk.ilt _ _)) (fun hb2 => by
        have hrn : 2 * n + 2 < l'.length := by have := of_decide_eq_true hb2; omega
        exact Tst.not (Tst.cmp (Ev.subL (n := 2 * n + 1) (Ev.v (V := .list a l') rfl) (Ev.v rfl) rfl (by push_cast; omega) (getD_at hcn) (by omega)) (Ev.subL (n := 2 * n + 2) (Ev.v (V := .list a l') rfl) (Ev.v rfl) rfl (by push_cast; omega) (getD_at hrn) (by omega)) (CmpOk.lt (hS.2 _ _ (getD_S hl' hcn) (getD_S hl' hrn)))))) (fun hlt => ?_) fun hlt => Wp.nil (wn (rest _ (2 * n + 1) _ _ (by push_cast; rfl) (.cons rfl (.cons rfl (.cons rfl (.cons rfl (.cons rfl (.cons rfl .nil)))))) hcn (by omega) ?_ fun ρ' h => h)))
    · rw [Bool.and_eq_true, decide_eq_true_eq] at hlt
      have hrn : 2 * n + 2 < l'.length := by omega
      refine Wp.seq (WS.assign (Ev.v rfl) rfl (.inl rfl) (wn (Wp.nil (wn (rest _ (2 * n + 2) _ _ (by push_cast; omega) (.cons rfl (.cons rfl (.cons rfl (.cons rfl (.cons rfl (.cons rfl .nil)))))) hrn (by omega) ?_ fun ρ' h => h)))))
      rw [if_pos ⟨hrn, by simpa using hlt.2⟩] at hr'
      exact hr'
    · have hno : ¬ (2 * n + 2 < l'.length ∧ vlt (l'.getD (2 * n + 1) .none) (l'.getD (2 * n + 2) .none) = false) := fun ⟨h1, h2⟩ => by
        rw [h2, Bool.not_false, Bool.and_true] at hlt
        have := of_decide_eq_false hlt; omega
      rw [if_neg hno] at hr'
      exact hr'
  · have hcn : ¬ 2 * n + 1 < l'.length := by rw [hlen']; have := of_decide_eq_false hb; omega
    rw [if_neg hcn] at hr'
    subst hr'
    exact hR

theorem sig8 : Sig (fdef 8) ["heap", "pos"] := Sig.of (by decide +kernel) fun pm code doc vs h => by
  match vs, h with
  | [a, b], _ => rfl
theorem w8 {c : Cx} (G : Ground c) {S : V → Prop} (hS : Cmp S) {a : Addr} {l : List V} {p : Nat} (hl : ∀ x ∈ l, S x) (hp : p < l.length) (hlen : l.length ≤ 2 ^ 18) :
    OwnFn c 1 (fdef 8) a l [.int p] (fun x l' => x = .none ∧ l' = sift vgt l p) := by
  refine OwnFn.of (ps := ["pos"]) G.ok sig8 rfl (G.fn 8 (by simp)) (by simp [foot]) (P := fun fl ρ' => fl = .nrm ∧ ρ'.lookup ("heap" : Str) = some (.list a (sift vgt l p))) ?_ (fun fl ρ' ⟨h1, h2⟩ => ⟨_, h2, by subst h1; exact ⟨rfl, rfl⟩⟩)
  generalize hR : sift vgt l p = R
  unfold sift at hR
  generalize hx : l.getD p .none = x at hR
  have hSx : S x := hx ▸ hl _ (by simp [hp])
  have fx := hS.1 x hSx
  refine Wp.seq (WS.assign (Ev.len G (Ev.v (V := .list a l) rfl) rfl (by omega)) rfl (.inl rfl) (wn ?_))
  refine Wp.seq (WS.assign (Ev.v rfl) rfl (.inl rfl) (wn ?_))
  refine Wp.seq (WS.assign (V := x) (Ev.subL (n := p) (Ev.v (V := .list a l) rfl) (Ev.v rfl) rfl rfl (by rw [← hx]; simp [hp]) (by omega)) fx.1 (.inl rfl) (wn ?_))
  refine Wp.seq (WS.assign (Ev.iop (Ev.iop (Ev.int 2 _) (Ev.v rfl) (IntOp.mulS _ _ (.inl (by decide)))) (Ev.int 1 _) (IntOp.add _ _)) rfl (.inl rfl) (wn ?_))
  generalize hr : sup vgt l.length l p = r at hR
  have tail : ∀ (l' : List V) (n : Nat) ρ'', Sub [("heap", .list a l'), ("startpos", .int p), ("pos", .int n), ("newitem", x)] ρ'' → n < l'.length → l'.length ≤ 2 ^ 18 → (∀ x ∈ l', S x) → sdown vgt (n + 1) (l'.set n x) x p n = R → Wp c 1 (fdef 8).scope ((fdef 8).body.drop 5) ρ'' (fun fl ρ' => fl = .nrm ∧ ρ'.lookup ("heap" : Str) = some (.list a R)) := fun l' n ρ'' hs hn hlen' hSl hr => by
    refine Wp.sub hs (Wp.seq (WS.setL (n := n) (a := a) (l := l') rfl (.inl rfl) (Ev.v rfl rfl fx.2) (Ev.v rfl) rfl hn (by omega) fx.1 fx.2 (wn ?_)))
    refine Wp.seq (WS.ex (Ex.callO (b := a) (l := l'.set n x) (rest := [.int p, .int n]) G.ok rfl (G.fn 7 (by simp)) rfl rfl (.inl rfl) (EvA.cons (Ev.v rfl) (EvA.cons (Ev.v rfl) EvA.nil)) (OwnFn.up (w7 G hS (mem_set_S hSl hSx n) (by simpa using hn) (by simp; omega)))) ?_)
    rintro v ρ' ⟨l'', ⟨rfl, rfl⟩, rfl⟩
    refine ⟨rfl, wn (Wp.nil ⟨rfl, ?_⟩)⟩
    rw [show (l'.set n x).getD n .none = x by simp [hn], hr]; rfl
  refine Wp.seq (WS.while_ (fun m ρ' => ∃ (n f : Nat) (l' : List V) (jp jc : Int), jp = (n : Int) ∧ jc = 2 * (n : Int) + 1 ∧ m = l.length - n ∧ Sub [("heap", .list a l'), ("startpos", .int p), ("pos", .int jp), ("newitem", x), ("endpos", .int l.length), ("childpos", .int jc)] ρ' ∧ n < l'.length ∧ l'.length = l.length ∧ (∀ x ∈ l', S x) ∧ l.length - n ≤ f ∧ sup vgt f l' n = r) (l.length - p)
    ⟨p, l.length, l, _, _, rfl, rfl, rfl, .cons rfl (.cons rfl (.cons rfl (.cons rfl (.cons rfl (.cons rfl .nil))))), hp, rfl, hl, by omega, hr⟩ ?_)
  rintro m ρ' ⟨n, f, l', _, _, rfl, rfl, rfl, hsub, hn, hlen', hl', hf, hr'⟩
  obtain ⟨f, rfl⟩ : ∃ g, f = g + 1 := ⟨f - 1, by omega⟩
  unfold sup at hr'
  refine ⟨_, Tst.cmp (Ev.v (hsub _ _ rfl)) (Ev.v (hsub _ _ rfl)) (CmpOk.ilt _ _), fun hb => Wp.sub hsub ?_, fun hb => wn (tail l' n ρ' (Sub.trans (.cons rfl (.cons rfl (.cons rfl (.cons rfl .nil)))) hsub) hn (by omega) hl' ?_)⟩
  · have hcn : 2 * n + 1 < l'.length := by rw [hlen']; have := of_decide_eq_true hb; omega
    rw [if_pos hcn] at hr'
    refine Wp.seq (WS.assign (Ev.iop (Ev.v rfl) (Ev.int 1 _) (IntOp.add _ _)) rfl (.inl rfl) (wn ?_))
    have rest : ∀ (Q : Fl → Rho → Prop) (q : Nat) (j : Int) ρ'', j = (q : Int) → Sub [("heap", .list a l'), ("startpos", .int p), ("pos", .int n), ("newitem", x), ("endpos", .int l.length), ("childpos", .int j)] ρ'' → q < l'.length → n < q → sup vgt f (l'.set n (l'.getD q .none)) q = r →
        (∀ ρ', (∃ m, m < l.length - n ∧ ∃ (n f : Nat) (l' : List V) (jp jc : Int), jp = (n : Int) ∧ jc = 2 * (n : Int) + 1 ∧ m = l.length - n ∧ Sub [("heap", .list a l'), ("startpos", .int p), ("pos", .int jp), ("newitem", x), ("endpos", .int l.length), ("childpos", .int jc)] ρ' ∧ n < l'.length ∧ l'.length = l.length ∧ (∀ x ∈ l', S x) ∧ l.length - n ≤ f ∧ sup vgt f l' n = r) → Q .nrm ρ') →
        Wp c 1 (fdef 8).scope ((inner (fdef 8).body 4).drop 2) ρ'' Q := fun Q q j ρ'' hj hs hq hnq hrq hQ => by
      have fq := hS.1 _ (getD_S hl' hq)
      refine Wp.sub hs (Wp.seq (WS.setL (n := n) (a := a) (l := l') rfl (.inl rfl) (Ev.subL (n := q) (Ev.v (V := .list a l') rfl) (Ev.v rfl) rfl hj (getD_at hq) (by omega)) (Ev.v rfl) rfl hn (by omega) fq.1 fq.2 (wn ?_)))
      refine Wp.seq (WS.assign (Ev.v rfl) rfl (.inl rfl) (wn ?_))
      refine Wp.seq (WS.assign (Ev.iop (Ev.iop (Ev.int 2 _) (Ev.v rfl) (IntOp.mulS _ _ (.inl (by decide)))) (Ev.int 1 _) (IntOp.add _ _)) rfl (.inl rfl) (wn (Wp.nil (hQ _ ?_))))
      exact ⟨l.length - q, by omega, q, f, l'.set n (l'.getD q .none), j, 2 * j + 1, hj, by rw [hj], rfl, .cons rfl (.cons rfl (.cons rfl (.cons rfl (.cons rfl (.cons rfl .nil))))), by simpa using hq, by simpa using hlen', mem_set_S hl' (getD_S hl' hq) n, by omega, hrq⟩
    refine Wp.seq (WS.if_ (b := decide ((2 * (n : Int) + 1 + 1) < (l.length : Int)) && !(vgt (l'.getD (2 * n + 1) .none) (l'.getD (2 * n + 2) .none))) (Tst.and (Tst.cmp (Ev.v rfl) (Ev.v rfl) (CmpOk.ilt _ _)) (fun hb2 => by
        have hrn : 2 * n + 2 < l'.length := by have := of_decide_eq_true hb2; omega
        exact Tst.not (Tst.cmp (Ev.subL (n := 2 * n + 2) (Ev.v (V := .list a l') rfl) (Ev.v rfl) rfl (by push_cast; omega) (getD_at hrn) (by omega)) (Ev.subL (n := 2 * n + 1) (Ev.v (V := .list a l') rfl) (Ev.v rfl) rfl (by push_cast; omega) (getD_at hcn) (by omega)) (CmpOk.lt (hS.2 _ _ (getD_S hl' hrn) (getD_S hl' hcn)))))) (fun hlt => ?_) fun hlt => Wp.nil (wn (rest _ (2 * n + 1) _ _ (by push_cast; rfl) (.cons rfl (.cons rfl (.cons rfl (.cons rfl (.cons rfl (.cons rfl .nil)))))) hcn (by omega) ?_ fun ρ' h => h)))
    · rw [Bool.and_eq_true, decide_eq_true_eq] at hlt
      have hrn : 2 * n + 2 < l'.length := by omega
      refine Wp.seq (WS.assign (Ev.v rfl) rfl (.inl rfl) (wn (Wp.nil (wn (rest _ (2 * n + 2) _ _ (by push_cast; omega) (.cons rfl (.cons rfl (.cons rfl (.cons rfl (.cons rfl (.cons rfl .nil)))))) hrn (by omega) ?_ fun ρ' h => h)))))
      rw [if_pos ⟨hrn, by simpa using hlt.2⟩] at hr'
      exact hr'
    · have hno : ¬ (2 * n + 2 < l'.length ∧ vgt (l'.getD (2 * n + 1) .none) (l'.getD (2 * n + 2) .none) = false) := fun ⟨h1, h2⟩ => by
        rw [h2, Bool.not_false, Bool.and_true] at hlt
        have := of_decide_eq_false hlt; omega
      rw [if_neg hno] at hr'
      exact hr'
  · have hcn : ¬ 2 * n + 1 < l'.length := by rw [hlen']; have := of_decide_eq_false hb; omega
    rw [if_neg hcn] at hr'
    subst hr'
    exact hR
end Mine
end
section
open PySem PyProof.Rows PySem.Calls
set_option maxRecDepth 10000
set_option linter.unusedVariables false
namespace Mine
def pushH (lt : V → V → Bool) (l : List V) (x : V) : List V := sdown lt (l.length + 1) (l ++ [x]) x 0 l.length
theorem sig1 : Sig (fdef 1) ["heap", "item"] := Sig.of (by decide +kernel) fun pm code doc vs h => by
  match vs, h with
  | [a, b], _ => rfl
theorem sig2 : Sig (fdef 2) ["heap"] := Sig.of (by decide +kernel) fun pm code doc vs h => by
  match vs, h with
  | [a], _ => rfl
theorem sig3 : Sig (fdef 3) ["heap"] := Sig.of (by decide +kernel) fun pm code doc vs h => by
  match vs, h with
  | [a], _ => rfl

/-- heappush -/
theorem w1 {c : Cx} (G : Ground c) {S : V → Prop} (hS : Cmp S) {a : Addr} {l : List V} {x : V} (hl : ∀ x ∈ l, S x) (hx : S x) (hlen : l.length ≤ 2 ^ 17) :
    OwnFn c 1 (fdef 1) a l [x] (fun y l' => y = .none ∧ l' = pushH vlt l x) := by
  have fx := hS.1 x hx
  refine OwnFn.of (ps := ["item"]) G.ok sig1 rfl (G.fn 1 (by simp)) (by simpa using fx.1) (P := fun fl ρ' => fl = .nrm ∧ ρ'.lookup ("heap" : Str) = some (.list a (pushH vlt l x))) ?_ (fun fl ρ' ⟨h1, h2⟩ => ⟨_, h2, by subst h1; exact ⟨rfl, rfl⟩⟩)
  refine Wp.seq (WS.append (a := a) (l := l) rfl (.inl rfl) (Ev.v rfl rfl fx.2) fx.1 fx.2 (by omega) (wn ?_))
  have e1 : ((l ++ [x]).length : Int) - 1 = (l.length : Int) := by simp
  refine Wp.seq (WS.ex (Ex.callO (b := a) (l := l ++ [x]) (rest := [.int (0 : Nat), .int l.length]) G.ok rfl (G.fn 5 (by simp)) rfl rfl (.inl rfl)
    (EvA.cons (Ev.int 0 _) (EvA.cons (by rw [← e1]; exact Ev.iop (Ev.len G (Ev.v (V := .list a (l ++ [x])) rfl) rfl (by simp; omega)) (Ev.int 1 _) (IntOp.sub _ _)) EvA.nil)) (OwnFn.up (w5 G hS (fun z hz => ?_) (by simp) (by simp; omega)))) ?_)
  · rcases List.mem_append.mp hz with h | h
    · exact hl z h
    · simp at h; exact h ▸ hx
  rintro v ρ' ⟨l'', ⟨rfl, rfl⟩, rfl⟩
  refine ⟨rfl, wn (Wp.nil ⟨rfl, ?_⟩)⟩
  rw [show (l ++ [x]).getD l.length .none = x by simp]; rfl

/-- what is left when the first is taken out -/
def popH (lt : V → V → Bool) (m : List V) (z : V) : List V := match m with
  | [] => []
  | _ :: r => sift lt (z :: r) 0

theorem w2 {c : Cx} (G : Ground c) {S : V → Prop} (hS : Cmp S) {a : Addr} {m : List V} {z : V} (hl : ∀ x ∈ m, S x) (hz : S z) (hlen : m.length ≤ 2 ^ 17) :
    OwnFn c 2 (fdef 2) a (m ++ [z]) [] (fun y l' => y = (m ++ [z]).getD 0 .none ∧ l' = popH vlt m z) := by
  have fz := hS.1 z hz
  refine OwnFn.of (ps := []) G.ok sig2 rfl (G.fn 2 (by simp)) (by simp) (P := fun fl ρ' => fl = .ret ((m ++ [z]).getD 0 .none) ∧ ρ'.lookup ("heap" : Str) = some (.list a (popH vlt m z))) ?_ (fun fl ρ' ⟨h1, h2⟩ => ⟨_, h2, by subst h1; exact ⟨rfl, rfl⟩⟩)
  refine Wp.seq (WS.pop (a := a) (l := m) (z := z) rfl (.inl rfl) fz.1 (.inl rfl) (by omega) (wn ?_))
  refine Wp.seq (WS.if_ (Tst.val (Ev.v (V := .list a m) rfl) (Tru.items rfl (by omega))) (fun h => ?_) (fun h => Wp.nil (wn (Wp.seq (WS.ret (Ev.v (V := z) rfl rfl fz.2) fz.1 fz.2 ?_)))))
  · cases m with
    | nil => cases h
    | cons y r =>
      have fy := hS.1 y (hl y (by simp))
      refine Wp.seq (WS.assign (V := y) (Ev.subL (n := 0) (Ev.v (V := .list a (y :: r)) rfl) (Ev.int 0 _) rfl rfl rfl (by omega)) fy.1 (.inl rfl) (wn ?_))
      refine Wp.seq (WS.setL (n := 0) (a := a) (l := y :: r) rfl (.inl rfl) (Ev.v (V := z) rfl rfl fz.2) (Ev.int 0 _) rfl (by simp) (by omega) fz.1 fz.2 (wn ?_))
      refine Wp.seq (WS.ex (Ex.callO (b := a) (l := z :: r) (rest := [.int (0 : Nat)]) G.ok rfl (G.fn 6 (by simp)) rfl rfl (.inl rfl) (EvA.cons (Ev.int 0 _) EvA.nil)
        (OwnFn.up (w6 G hS (p := 0) (fun x hx => by rcases List.mem_cons.mp hx with h | h; exact h ▸ hz; exact hl x (by simp [h])) (by simp) (by simp at hlen; simp; omega)))) ?_)
      rintro v ρ' ⟨l'', ⟨rfl, rfl⟩, rfl⟩
      exact ⟨rfl, wn (Wp.seq (WS.ret (Ev.v (V := y) rfl rfl fy.2) fy.1 fy.2 ⟨rfl, rfl⟩))⟩
  · cases m with
    | nil => exact ⟨rfl, rfl⟩
    | cons y r => cases h

theorem w3 {c : Cx} (G : Ground c) {S : V → Prop} (hS : Cmp S) {a : Addr} {m : List V} {z : V} (hl : ∀ x ∈ m, S x) (hz : S z) (hlen : m.length ≤ 2 ^ 17) :
    OwnFn c 2 (fdef 3) a (m ++ [z]) [] (fun y l' => y = (m ++ [z]).getD 0 .none ∧ l' = popH vgt m z) := by
  have fz := hS.1 z hz
  refine OwnFn.of (ps := []) G.ok sig3 rfl (G.fn 3 (by simp)) (by simp) (P := fun fl ρ' => fl = .ret ((m ++ [z]).getD 0 .none) ∧ ρ'.lookup ("heap" : Str) = some (.list a (popH vgt m z))) ?_ (fun fl ρ' ⟨h1, h2⟩ => ⟨_, h2, by subst h1; exact ⟨rfl, rfl⟩⟩)
  refine Wp.seq (WS.pop (a := a) (l := m) (z := z) rfl (.inl rfl) fz.1 (.inl rfl) (by omega) (wn ?_))
  refine Wp.seq (WS.if_ (Tst.val (Ev.v (V := .list a m) rfl) (Tru.items rfl (by omega))) (fun h => ?_) (fun h => Wp.nil (wn (Wp.seq (WS.ret (Ev.v (V := z) rfl rfl fz.2) fz.1 fz.2 ?_)))))
  · cases m with
    | nil => cases h
    | cons y r =>
      have fy := hS.1 y (hl y (by simp))
      refine Wp.seq (WS.assign (V := y) (Ev.subL (n := 0) (Ev.v (V := .list a (y :: r)) rfl) (Ev.int 0 _) rfl rfl rfl (by omega)) fy.1 (.inl rfl) (wn ?_))
      refine Wp.seq (WS.setL (n := 0) (a := a) (l := y :: r) rfl (.inl rfl) (Ev.v (V := z) rfl rfl fz.2) (Ev.int 0 _) rfl (by simp) (by omega) fz.1 fz.2 (wn ?_))
      refine Wp.seq (WS.ex (Ex.callO (b := a) (l := z :: r) (rest := [.int (0 : Nat)]) G.ok rfl (G.fn 8 (by simp)) rfl rfl (.inl rfl) (EvA.cons (Ev.int 0 _) EvA.nil)
        (OwnFn.up (w8 G hS (p := 0) (fun x hx => by rcases List.mem_cons.mp hx with h | h; exact h ▸ hz; exact hl x (by simp [h])) (by simp) (by simp at hlen; simp; omega)))) ?_)
      rintro v ρ' ⟨l'', ⟨rfl, rfl⟩, rfl⟩
      exact ⟨rfl, wn (Wp.seq (WS.ret (Ev.v (V := y) rfl rfl fy.2) fy.1 fy.2 ⟨rfl, rfl⟩))⟩
  · cases m with
    | nil => exact ⟨rfl, rfl⟩
    | cons y r => cases h
end Mine
end
section
open PySem PyProof.Rows PySem.Calls
set_option maxRecDepth 10000
set_option linter.unusedVariables false
namespace Mine
section
variable {prog : Program} {w : World} {A : Around} {E : Value → Shared → Prop} {s : Shared}
theorem lookup_rev_range : typeLookup (.type "range") "__reversed__" = pure (some (.builtin "range.__reversed__")) := PySem.F.slot_range_reversed.lookup
theorem sub_ri_reversed : isSubtype (.type "range_iterator") (.type "reversed") = pure false := by rw [isSubtype_type]; kernel_rfl

def rrObj (lo hi : Int) : Obj := { cls := .type "range_iterator", data := .fields #[rawInt (lo + (Builtin.Range.rangeSize lo hi 1 - 1) * 1), rawInt (Builtin.Range.rangeSize lo hi 1), rawInt (-1)] }
theorem range_rev_meets (r : Addr) (a b c : Int) (t u v : Tok) (hc0 : ¬ (!(Builtin.Range.rangeFitsLong a && Builtin.Range.rangeFitsLong b && Builtin.Range.rangeFitsLong c && Builtin.Range.rangeFitsLong (-c) && Builtin.Range.rangeFitsLong (a - c) && Builtin.Range.rangeFitsLong (Builtin.Range.rangeSize a b c))) = true) :
    Meets (Builtin.«range.__reversed__» ⟨[.ref r], []⟩) (fun _ R s => s.heap.get? r = some { cls := .type "range", dict := none, data := .fields #[.int a t, .int b u, .int c v], slots := #[] } ∧ R (.ok (.ret (Value.ref s.heap.objs.size))) { s with heap := s.heap.push { cls := Value.type (if (Builtin.Range.rangeFitsLong a && Builtin.Range.rangeFitsLong b && Builtin.Range.rangeFitsLong c && Builtin.Range.rangeFitsLong (-c) && Builtin.Range.rangeFitsLong (a - c) && Builtin.Range.rangeFitsLong (Builtin.Range.rangeSize a b c)) = true then "range_iterator" else "longrange_iterator"), data := Data.fields #[rawInt (a + (Builtin.Range.rangeSize a b c - 1) * c), rawInt (Builtin.Range.rangeSize a b c), rawInt (-c)] }, toks := s.toks }) :=
  .of_wp fun prog w A R s h => by obtain ⟨hp, g, d, tk, os⟩ := s; obtain ⟨hl, h⟩ := h; wp_walk; exact ⟨_, rfl, h⟩
theorem call_range_rev {r : Addr} {lo hi : Int} {t1 t2 t3 : Tok} {Q : Value → Shared → Prop} (hr : IsRange s.heap r lo hi 1 t1 t2 t3)
    (hsm : (Builtin.Range.rangeFitsLong lo && Builtin.Range.rangeFitsLong hi && Builtin.Range.rangeFitsLong 1 && Builtin.Range.rangeFitsLong (-1) && Builtin.Range.rangeFitsLong (lo - 1) && Builtin.Range.rangeFitsLong (Builtin.Range.rangeSize lo hi 1)) = true)
    (h : Q (.ref s.heap.objs.size) { s with heap := s.heap.push (rrObj lo hi) }) : wpAny (model prog w) A (call (.builtin "range.__reversed__") [.ref r]) Q E s := by
  have hT : s.TypeIs (.ref r) "range" := ⟨_, hr, rfl⟩
  refine call_meets PySem.F.slot_range_reversed hT PySem.F.entry_range_reversed (PySem.F.args_range_reversed_1 _) (range_rev_meets r lo hi 1 t1 t2 t3 (by rw [hsm]; simp)) ⟨hr, ?_⟩
  rw [if_pos hsm]
  exact h

theorem code_reversed_range {r : Addr} {lo hi : Int} {t1 t2 t3 : Tok} {Q₁ : Value → Shared → Prop} (hr : IsRange s.heap r lo hi 1 t1 t2 t3)
    (hsm : (Builtin.Range.rangeFitsLong lo && Builtin.Range.rangeFitsLong hi && Builtin.Range.rangeFitsLong 1 && Builtin.Range.rangeFitsLong (-1) && Builtin.Range.rangeFitsLong (lo - 1) && Builtin.Range.rangeFitsLong (Builtin.Range.rangeSize lo hi 1)) = true)
    (h : Q₁ (.ref s.heap.objs.size) { s with heap := s.heap.push (rrObj lo hi) }) :
    codeAny (model prog w) A (.call (.builtin "reversed.__new__") ⟨[.type "reversed", .ref r], []⟩) (wants Q₁ E) s := by
  have hT : s.TypeIs (.ref r) "range" := ⟨_, hr, rfl⟩
  refine codeAny_of_tree ?_
  show wpAny _ A.in1 (do checkBuiltinCall "reversed.__new__" ⟨[.type "reversed", .ref r], []⟩; again (.builtin "reversed.__new__" ⟨[.type "reversed", .ref r], []⟩)) _ _ s
  refine wpAny_bind (wpAny_of_eq (PySem.F.newCall_reversed_1 _) (wpAny_pure ⟨plainId_quiet PySem.F.plain_reversed_new _, codeAny_builtin PySem.F.entry_reversed_new ?_⟩))
  rw [Around.under_plainId PySem.F.plain_reversed_new _]
  unfold Builtin.«reversed.__new__»
  refine wpAny_bind (wpAny_of_eq (newClass_reversed _) ?_)
  try dsimp only
  refine wpAny_bind (wpAny_of_eq (a := ()) (by first | rfl | kernel_rfl) ?_)
  refine wpAny_bind (wpAny_of_eq (a := ()) (by first | rfl | kernel_rfl) ?_)
  try dsimp only
  refine wpAny_bind (wpAny_specialOf hT lookup_rev_range ?_)
  try dsimp only
  refine wpAny_bind (wpAny_of_eq (PySem.F.slot_range_reversed.bind _) ?_)
  try dsimp only
  first
  | rw [if_neg (show ¬ ((Value.builtin "range.__reversed__" == Value.none) = true) from Bool.false_ne_true)]
  | (show wpAny _ _ (if (Value.builtin "range.__reversed__" == Value.none) = true then _ else _) _ _ _; rw [if_neg (show ¬ ((Value.builtin "range.__reversed__" == Value.none) = true) from Bool.false_ne_true)])
  refine wpAny_bind (wpAny_rule ?_)
  refine wpAny_bind (m := runValue (.call (.builtin "range.__reversed__") ⟨[.ref r], []⟩)) (show wpAny _ _ (call (.builtin "range.__reversed__") [.ref r]) _ _ _ from call_range_rev hr hsm ?_)
  first
  | exact wpAny_pure h
  | exact wpAny_bind (wpAny_pure (wpAny_pure h))

theorem call_reversed_range {r : Addr} {lo hi : Int} {t1 t2 t3 : Tok} {Q : Value → Shared → Prop} (hr : IsRange s.heap r lo hi 1 t1 t2 t3)
    (hsm : (Builtin.Range.rangeFitsLong lo && Builtin.Range.rangeFitsLong hi && Builtin.Range.rangeFitsLong 1 && Builtin.Range.rangeFitsLong (-1) && Builtin.Range.rangeFitsLong (lo - 1) && Builtin.Range.rangeFitsLong (Builtin.Range.rangeSize lo hi 1)) = true)
    (h : Q (.ref s.heap.objs.size) { s with heap := s.heap.push (rrObj lo hi) }) : wpAny (model prog w) A (call (.type "reversed") [.ref r]) Q E s := by
  refine callType_other (U := "range_iterator") (Q₁ := fun obj s₁ => obj = .ref s.heap.objs.size ∧ s₁ = { s with heap := s.heap.push (rrObj lo hi) }) (by decide +kernel) PySem.F.create_reversed ⟨_, _, PySem.F.mro_reversed⟩ PySem.F.made_reversed sub_ri_reversed (PySem.F.typeCall_reversed_1 _) (code_reversed_range hr hsm ⟨rfl, rfl⟩) ?_
  rintro obj s₁ ⟨rfl, rfl⟩
  exact ⟨⟨_, Heap.get?_push_size _ rfl, rfl⟩, h⟩
end
section
variable {c : Cx} {k : Nat} {sc : Scope} {ρ : Rho} {pos p : Pos}
theorem Ev.revRange {e : Expr} {n : Nat} (G : Ground c) (he : Ev c k sc ρ e (Is c (.rng 0 n))) (hn : n ≤ 2 ^ 20) (hx : sc.names.lookup ("reversed" : Str) = some .globalImplicit := by rfl) (hpl : plainE e = true := by rfl) :
    Ev c k sc ρ (.Call (.Name "reversed" p) [e] [] pos) (Yields c ((List.range n).reverse.map fun (i : Nat) => V.int i)) := fun env A s Z hE hA hr => by
  refine Call_Name rfl (name_builtin G.ok hx (G.bi _ (by simp)) (show bootBuiltins "reversed" = some (.type "reversed") by decide +kernel) (by decide) hE hr.toBase ?_)
  have hs1 : starEach [e] env = [(false, eval e env)] := by rw [starEach_plain hpl]; rfl
  rw [hs1]
  refine PyProof.Rows.callWith_type (by rfl) (Calls.evalArgs_plain ?_)
  have hb1 : ((false, eval e env) :: backTo pos (starEach [] env) : List (Bool × Sem Value)) = backTo pos (starEach [e] env) := by rw [hs1]; rfl
  show wpAny (model c.prog c.w) A (spliced ((false, eval e env) :: backTo pos (starEach [] env))) _ _ _
  rw [hb1]
  refine wpAny_mono ((EvA.cons he EvA.nil hpl) pos env A s Z hE hA hr) (fun vs s1 ⟨Z1, u1, r1⟩ => ?_) fun _ _ x => x
  obtain ⟨v, rfl, r⟩ := RepL.inv1 r1
  cases r with
  | imm r =>
    cases r with
    | @rng a _ _ o t1 t2 t3 ho hob =>
      subst hob
      have hsz : Builtin.Range.rangeSize 0 (n : Int) 1 = (n : Int) := by rw [Mine.rangeSize_one]; simp
      have fits : ∀ x : Int, -(2 ^ 40) ≤ x → x ≤ 2 ^ 40 → Builtin.Range.rangeFitsLong x = true := fun x h1 h2 => by
        unfold Builtin.Range.rangeFitsLong
        simp
        omega
      refine call_reversed_range (u1.zin _ _ ho) (by rw [hsz]; simp only [fits _ (show -(2 ^ 40 : Int) ≤ 0 by omega) (by omega), fits (n : Int) (by omega) (by omega), fits 1 (by omega) (by omega), fits (-1) (by omega) (by omega), fits (0 - 1) (by omega) (by omega), Bool.and_true]) ?_
      have hobj : rrObj 0 (n : Int) = { cls := .type "range_iterator", data := .fields #[rawInt (((n : Int) - 1) + ((0 : Nat) : Int) * (-1)), rawInt ((n : Int) - ((0 : Nat) : Int)), rawInt (-1)] } := by
        unfold rrObj; rw [hsz]; simp
      refine ⟨Z1, u1.trans (Up.same u1.zin (Kp.push _ _)), fun B hB E Q hQ => ?_⟩
      have hst : IsRangeIter (s1.heap.push (rrObj 0 n)) s1.heap.objs.size (((n : Int) - 1) + ((0 : Nat) : Int) * (-1)) ((n : Int) - ((0 : Nat) : Int)) (-1) := by
        rw [hobj]; exact Heap.get?_push_size _ rfl
      refine wpAny_pyIter_rangeiter (s := { s1 with heap := s1.heap.push (rrObj 0 n) }) hst ?_
      refine hQ s1.heap.objs.size (fun i h => IsRangeIter h s1.heap.objs.size (((n : Int) - 1) + (i : Nat) * (-1)) ((n : Int) - (i : Nat)) (-1)) _ (Kp.rfl' _) (u1.keeps.fresh fresh_size) (Z_fresh u1.zin fresh_size) ?_ hst
      have W := Walks.range (prog := c.prog) (w := c.w) hB s1.heap.objs.size ((n : Int) - 1) (-1) n
      refine It.ofWalks (T := "range_iterator") (xs := (List.range n).reverse.map fun (i : Nat) => V.int i) (by rw [show ((List.range n).reverse.map fun (i : Nat) => V.int i).length = n by simp]; exact W) (fun b hb => .inl (by simpa using hb)) (fun i v x hp hx => ?_) (by decide) fun i h hs => ⟨_, hs, rfl⟩
      obtain ⟨t, rfl⟩ := hp
      rw [List.getElem?_map] at hx
      have hi : i < n := by
        cases e : (List.range n).reverse[i]? with
        | none => rw [e] at hx; cases hx
        | some y => have := (List.getElem?_eq_some_iff.mp e).1; simpa using this
      have : x = .int (((n : Int) - 1) + (i : Nat) * (-1)) := by
        rw [List.getElem?_reverse (by simpa using hi)] at hx
        simp only [List.length_range] at hx
        rw [List.getElem?_range (by omega)] at hx
        simp only [Option.map_some, Option.some.injEq] at hx
        rw [← hx]; congr 1; omega
      subst this
      exact .int _ _
end
end Mine
end
section
open PySem PyProof.Rows PySem.Calls
set_option maxRecDepth 10000
set_option linter.unusedVariables false
namespace Mine
theorem stT {sc : Scope} {t : Expr} (h : (tgtNames t).all (stB sc) = true) : ∀ x ∈ tgtNames t, Storable sc x := fun x hx => stB_ok (List.all_eq_true.mp h x hx)
theorem sig4 : Sig (fdef 4) ["x"] := Sig.of (by decide +kernel) fun pm code doc vs h => by
  match vs, h with
  | [a], _ => rfl
/-- the heap made of a list: from n // 2 - 1 on down -/
def heapify (lt : V → V → Bool) : Nat → List V → List V
  | 0, l => l
  | n + 1, l => heapify lt n (sift lt l n)
theorem sift_len (lt : V → V → Bool) (l : List V) (p : Nat) (h : p < l.length) : (sift lt l p).length = l.length := by
  unfold sift
  simp only [sdown_len, List.length_set]
  exact (sup_len lt l.length l p h).1
theorem sup_S {S : V → Prop} (lt : V → V → Bool) : ∀ f l p, (∀ x ∈ l, S x) → p < l.length → ∀ x ∈ (sup lt f l p).1, S x
  | 0, l, p, h, _ => h
  | f + 1, l, p, h, hp => by
    unfold sup
    split
    · rename_i h1
      split
      · rename_i h2
        exact sup_S lt f _ _ (mem_set_S h (getD_S h h2.1) p) (by simpa using h2.1)
      · exact sup_S lt f _ _ (mem_set_S h (getD_S h h1) p) (by simpa using h1)
    · exact h
theorem sdown_S {S : V → Prop} (lt : V → V → Bool) (x : V) (s : Nat) (hx : S x) : ∀ f l p, (∀ x ∈ l, S x) → p < l.length → ∀ y ∈ sdown lt f l x s p, S y
  | 0, l, p, h, _ => mem_set_S h hx p
  | f + 1, l, p, h, hp => by
    unfold sdown
    split
    · split
      · exact sdown_S lt x s hx f _ _ (mem_set_S h (getD_S h (by omega)) p) (by simp; omega)
      · exact mem_set_S h hx p
    · exact mem_set_S h hx p
theorem sift_S {S : V → Prop} (lt : V → V → Bool) (l : List V) (p : Nat) (hl : ∀ x ∈ l, S x) (h : p < l.length) : ∀ x ∈ sift lt l p, S x := by
  unfold sift
  have h1 := sup_len lt l.length l p h
  exact sdown_S lt _ p (getD_S hl h) _ _ _ (mem_set_S (sup_S lt _ _ _ hl h) (getD_S hl h) _) (by rw [List.length_set]; omega)

theorem w4 {c : Cx} (G : Ground c) {S : V → Prop} (hS : Cmp S) {a : Addr} {l : List V} (hl : ∀ x ∈ l, S x) (hlen : l.length ≤ 2 ^ 17) :
    OwnFn c 2 (fdef 4) a l [] (fun y l' => y = .none ∧ l' = heapify vgt (l.length / 2) l) := by
  refine OwnFn.of (ps := []) G.ok sig4 rfl (G.fn 4 (by simp)) (by simp) (P := fun fl ρ' => fl = .nrm ∧ ρ'.lookup ("x" : Str) = some (.list a (heapify vgt (l.length / 2) l))) ?_ (fun fl ρ' ⟨h1, h2⟩ => ⟨_, h2, by subst h1; exact ⟨rfl, rfl⟩⟩)
  refine Wp.seq (WS.assign (Ev.len G (Ev.v (V := .list a l) rfl) rfl (by omega)) rfl (.inl rfl) (wn ?_))
  have e2 : (l.length : Int) / 2 = ((l.length / 2 : Nat) : Int) := by omega
  generalize hn : l.length / 2 = n at e2
  refine Wp.seq (WS.for_ (xs := (List.range n).reverse.map fun (i : Nat) => V.int i) (fun i ρ' => ∃ l', Sub [("x", .list a l')] ρ' ∧ l'.length = l.length ∧ (∀ x ∈ l', S x) ∧ heapify vgt (n - i) l' = heapify vgt n l)
    (Ev.revRange G (Ev.range1 G (by rw [← e2]; exact Ev.iop (Ev.v rfl) (Ev.int 2 _) (IntOp.div _ _ (by decide) (by decide)))) (by omega)) (stT (by rfl)) ⟨l, .cons rfl .nil, rfl, hl, rfl⟩ ?_ ?_)
  · rintro i y ρ' hy ⟨l', hsub, hlen', hl', hh⟩
    have hi : i < n := by
      have := (List.getElem?_eq_some_iff.mp hy).1; simpa using this
    have hyv : y = .int ((n - 1 - i : Nat) : Int) := by
      rw [List.getElem?_map, List.getElem?_reverse (by simpa using hi)] at hy
      simp only [List.length_range] at hy
      rw [List.getElem?_range (by omega)] at hy
      simp only [Option.map_some, Option.some.injEq] at hy
      rw [← hy]
    subst hyv
    refine ⟨rfl, _, rfl, ?_⟩
    refine Wp.sub (ρ' := [("i", .int ((n - 1 - i : Nat) : Int)), ("x", .list a l')]) (.cons rfl (.cons (hsub _ _ rfl) .nil)) ?_
    refine Wp.seq (WS.ex (Ex.callO (b := a) (l := l') (rest := [.int ((n - 1 - i : Nat) : Int)]) G.ok rfl (G.fn 8 (by simp)) rfl rfl (.inl rfl) (EvA.cons (Ev.v rfl) EvA.nil) (OwnFn.up (w8 G hS (p := n - 1 - i) hl' (by omega) (by omega)))) ?_)
    rintro v ρ' ⟨l'', ⟨rfl, rfl⟩, rfl⟩
    refine ⟨rfl, wn (Wp.nil ⟨_, .cons rfl .nil, by rw [sift_len _ _ _ (by omega), hlen'], sift_S _ _ _ hl' (by omega), ?_⟩)⟩
    rw [← hh]
    have : n - i = (n - 1 - i) + 1 := by omega
    rw [this]
    show heapify vgt (n - (i + 1)) _ = heapify vgt (n - 1 - i) (sift vgt l' (n - 1 - i))
    rw [show n - (i + 1) = n - 1 - i by omega]
  · rintro ρ' ⟨l', hsub, _, _, hh⟩
    simp only [List.length_map, List.length_reverse, List.length_range, Nat.sub_self] at hh
    exact wn (Wp.nil ⟨rfl, by rw [← hh]; exact hsub _ _ rfl⟩)
end Mine
end
section
open PySem PyProof.Rows PySem.Calls
set_option maxRecDepth 10000
set_option linter.unusedVariables false
namespace Mine
def tab (f : Nat → Nat → Bool) : List (List Bool) := (List.range 7).map fun a => (List.range 7).map fun b => f a b
def upd (f : Nat → Nat → Bool) (i j : Nat) (v : Bool) : Nat → Nat → Bool := fun a b => if a = i ∧ b = j then v else f a b
theorem tab_len (f) : (tab f).length = 7 := by simp [tab]
theorem tab_row {f : Nat → Nat → Bool} {a : Nat} (h : a < 7) : (tab f)[a]? = some ((List.range 7).map fun b => f a b) := by simp [tab, h]
theorem row_at {f : Nat → Nat → Bool} {a b : Nat} (h : b < 7) : ((List.range 7).map fun b => f a b)[b]? = some (f a b) := by simp [h]
theorem tab_set {f : Nat → Nat → Bool} {i j : Nat} {v : Bool} (hi : i < 7) (hj : j < 7) : (tab f).set i (((List.range 7).map fun b => f i b).set j v) = tab (upd f i j v) := by
  apply List.ext_getElem?
  intro a
  by_cases ha : a < 7
  · rw [tab_row ha]
    by_cases e : a = i
    · subst e
      rw [List.getElem?_set_self (by rw [tab_len]; exact hi)]
      congr 1
      apply List.ext_getElem?
      intro b
      by_cases hb : b < 7
      · rw [row_at (f := upd f a j v) hb]
        by_cases e2 : b = j
        · subst e2; rw [List.getElem?_set_self (by simpa using hb)]; simp [upd]
        · rw [List.getElem?_set_ne (Ne.symm e2), row_at hb]; simp [upd, e2]
      · rw [List.getElem?_eq_none (by simp; omega), List.getElem?_eq_none (by simp; omega)]
    · rw [List.getElem?_set_ne (Ne.symm e), tab_row ha]
      congr 1
      apply List.map_congr_left
      intro b hb
      simp [upd, e]
  · rw [List.getElem?_eq_none (by simp [tab_len]; omega), List.getElem?_eq_none (by rw [tab_len]; omega)]
theorem tab_false : List.replicate 7 (List.replicate 7 false) = tab fun _ _ => false := by decide

theorem rangeSmall (lo hi : Int) (h1 : -(2 ^ 40) ≤ lo) (h2 : lo ≤ 2 ^ 40) (h3 : -(2 ^ 40) ≤ hi) (h4 : hi ≤ 2 ^ 40) : Builtin.Range.small lo hi 1 = true := by
  have fits : ∀ x : Int, -(2 ^ 42) ≤ x → x ≤ 2 ^ 42 → Builtin.Range.rangeFitsLong x = true := fun x h1 h2 => by
    unfold Builtin.Range.rangeFitsLong; simp; omega
  unfold Builtin.Range.small
  rw [Mine.rangeSize_one]
  have hs : Builtin.Range.rangeFitsLong ((hi - lo).toNat : Int) = true := fits _ (by omega) (by omega)
  rw [fits lo (by omega) (by omega), fits hi (by omega) (by omega), fits 1 (by omega) (by omega), hs]
  simp only [Bool.true_and, Bool.or_eq_true]
  right
  rw [if_pos (by omega)]
  exact fits _ (by omega) (by omega)

theorem upto_at {lo hi : Int} {i : Nat} {x : V} (h : (upto lo hi)[i]? = some x) : i < (hi - lo).toNat ∧ x = .int (lo + (i : Nat)) := by
  have hi' : i < (hi - lo).toNat := by
    have := (List.getElem?_eq_some_iff.mp h).1
    simpa [upto] using this
  refine ⟨hi', ?_⟩
  simp [upto, hi'] at h
  rw [← h]
theorem upto_mem {lo hi : Int} {x : V} (h : x ∈ upto lo hi) : ∃ i : Nat, i < (hi - lo).toNat ∧ x = .int (lo + (i : Nat)) := by
  obtain ⟨i, hi⟩ := List.mem_iff_getElem?.mp h
  exact ⟨i, upto_at hi⟩
theorem upto_len (lo hi : Int) : (upto lo hi).length = (hi - lo).toNat := by simp [upto]

section
variable {c : Cx} {k : Nat} {sc : Scope} {ρ : Rho} {pos p : Pos}
/-- for .. in range(n) -/
theorem Ev.rangeY {e : Expr} {n : Nat} (G : Ground c) (he : Ev c k sc ρ e (Is c (.int n))) (hn : n ≤ 2 ^ 30) (hx : sc.names.lookup ("range" : Str) = some .globalImplicit := by rfl) (hpl : plainE e = true := by rfl) : Ev c k sc ρ (.Call (.Name "range" p) [e] [] pos) (Yields c ((List.range n).map fun (i : Nat) => V.int i)) := by
  have := Ev.yields_rng (Ev.range1 (p := p) (pos := pos) G he hx hpl) (rangeSmall 0 n (by omega) (by omega) (by omega) (by omega))
  have e : upto 0 n = (List.range n).map fun (i : Nat) => V.int i := by simp [upto]
  rwa [e] at this
end

theorem frOk {scope sc : Scope} (h : (scope.names.all fun p => p.2 != .free || (sc.names.lookup p.1 == some .cell || sc.names.lookup p.1 == some .free)) = true) : ∀ n, (n, NameKind.free) ∈ scope.names → sc.names.lookup n = some .cell ∨ sc.names.lookup n = some .free := fun n hn => by
  have := List.all_eq_true.mp h _ hn
  simpa using this
theorem tgOk {scope : Scope} {t : Expr} (h : ((tgtNames t).all fun x => scope.names.lookup x == some .local || scope.names.lookup x == some .cell) = true) : TgtIn scope t := fun x hx => by
  have := List.all_eq_true.mp h x hx
  simpa using this

theorem sig11 : Sig (fdef 11) ["script"] := Sig.of (by decide +kernel) fun pm code doc vs h => by
  match vs, h with
  | [a], _ => rfl

/-- what the ties' matrix is good for -/
structure Order (f : Nat → Nat → Bool) : Prop where
  rank : ∃ r : Nat → Nat, ∀ i j, i < 7 → j < 7 → f i j = true → r i < r j
  trans : ∀ i j k, i < 7 → j < 7 → k < 7 → f i j = true → f j k = true → f i k = true

theorem ints_all {xs : List V} (h : ∀ x ∈ xs, ∃ i, x = V.int i) : ∃ ns : List Int, xs = ns.map V.int := by
  induction xs with
  | nil => exact ⟨[], rfl⟩
  | cons x r ih =>
    obtain ⟨i, rfl⟩ := h x (by simp)
    obtain ⟨ns, rfl⟩ := ih fun y hy => h y (by simp [hy])
    exact ⟨i :: ns, rfl⟩

def rankOf (step start i : Nat) : Nat := ((List.range 7).find? fun u => (u * step + start) % 7 == i).getD 0
theorem rank_ok : ∀ step : Nat, step ≤ 6 → 1 ≤ step → ∀ start : Nat, start < 7 → ∀ u : Nat, u < 7 → rankOf step start ((u * step + start) % 7) = u := by decide +kernel

/-- the way through the closure's k-th step: what is marked lies between f0 and T; what is passed is T -/
def Tk (f0 : Nat → Nat → Bool) (k : Nat) (x y : Nat) : Bool := f0 x y || (f0 x k && f0 k y)
def Mid (f0 : Nat → Nat → Bool) (k : Nat) (f : Nat → Nat → Bool) (a b : Nat) : Prop := ∀ x y, x < 7 → y < 7 → (f0 x y = true → f x y = true) ∧ (f x y = true → Tk f0 k x y = true) ∧ ((x < a ∨ (x = a ∧ y < b)) → f x y = Tk f0 k x y)
theorem Mid.start (f0 k) : Mid f0 k f0 0 0 := fun x y _ _ => ⟨id, fun h => by unfold Tk; rw [h]; rfl, fun h => by omega⟩
theorem Mid.row {f0 k f a} (h : Mid f0 k f a 7) : Mid f0 k f (a + 1) 0 := fun x y hx hy => ⟨(h x y hx hy).1, (h x y hx hy).2.1, fun q => (h x y hx hy).2.2 (by omega)⟩
theorem Mid.step {f0 k f a b} (h : Mid f0 k f a b) (hk : k < 7) (ha : a < 7) (hb : b < 7) : Mid f0 k (upd f a b (f a b || (f a k && f k b))) a (b + 1) := by
  have e1 : f a k = f0 a k := by
    have := h a k ha hk
    cases e : f0 a k with
    | true => exact this.1 e
    | false =>
      cases e' : f a k with
      | false => rfl
      | true => have := this.2.1 e'; unfold Tk at this; simp [e] at this
  have e2 : f k b = f0 k b := by
    have := h k b hk hb
    cases e : f0 k b with
    | true => exact this.1 e
    | false =>
      cases e' : f k b with
      | false => rfl
      | true => have := this.2.1 e'; unfold Tk at this; simp [e] at this
  have e3 : (f a b || (f a k && f k b)) = Tk f0 k a b := by
    rw [e1, e2]
    have := h a b ha hb
    unfold Tk at this ⊢
    cases e : f0 a b with
    | true => rw [this.1 e]
    | false =>
      rw [e] at this
      cases e' : f a b with
      | false => rfl
      | true => rw [Bool.true_or]; exact (this.2.1 e').symm
  intro x y hx hy
  unfold upd
  by_cases e : x = a ∧ y = b
  · obtain ⟨rfl, rfl⟩ := e
    simp only [and_self, if_true]
    rw [e3]
    exact ⟨fun q => by unfold Tk; rw [q]; rfl, id, fun _ => rfl⟩
  · simp only [e, if_false]
    exact ⟨(h x y hx hy).1, (h x y hx hy).2.1, fun q => (h x y hx hy).2.2 (by omega)⟩
def Through (f : Nat → Nat → Bool) (k : Nat) : Prop := ∀ a b c, a < 7 → b < 7 → c < k → c < 7 → f a c = true → f c b = true → f a b = true
theorem Mid.done {f0 k f} (h : Mid f0 k f 7 0) (hk : k < 7) (ht : Through f0 k) : Through f (k + 1) := by
  have e : ∀ x y, x < 7 → y < 7 → f x y = Tk f0 k x y := fun x y hx hy => (h x y hx hy).2.2 (by omega)
  intro a b c ha hb hc hc7 h1 h2
  rw [e a c ha hc7] at h1
  rw [e c b hc7 hb] at h2
  rw [e a b ha hb]
  unfold Tk at h1 h2 ⊢
  simp only [Bool.or_eq_true, Bool.and_eq_true] at h1 h2 ⊢
  by_cases hck : c = k
  · subst hck
    right
    exact ⟨h1.elim id (·.1), h2.elim id (·.2)⟩
  · have hc' : c < k := by omega
    rcases h1 with h1 | ⟨h1, h1'⟩ <;> rcases h2 with h2 | ⟨h2, h2'⟩
    · exact .inl (ht a b c ha hb hc' hc7 h1 h2)
    · exact .inr ⟨ht a k c ha hk hc' hc7 h1 h2, h2'⟩
    · exact .inr ⟨h1, ht k b c hk hb hc' hc7 h1' h2⟩
    · exact .inr ⟨h1, h2'⟩

theorem w11 {c : Cx} (G : Ground c) {ns : List Int} (hlen : ns.length ≤ 63) :
    PureFn c 0 (fdef 11) [.fl (ns.map V.int)] (fun y => ∃ f, Order f ∧ y = .fl (rowsV (tab f))) := by
  refine PureFn.of (ps := ["script"]) G.ok sig11 rfl (G.fn 11 (by simp)) (by simp [foot]) (P := fun fl ρ' => ∃ f, Order f ∧ fl = .ret (.fl (rowsV (tab f)))) ?_ (fun fl ρ' ⟨f, h1, h2⟩ => ⟨f, h1, by rw [h2]; rfl⟩)
  have hs1 : ∃ step : Nat, 1 ≤ step ∧ step ≤ 6 ∧ 1 + ns.sum % 6 = (step : Int) := ⟨(1 + ns.sum % 6).toNat, by omega, by omega, by omega⟩
  have hs2 : ∃ start : Nat, start < 7 ∧ ns.sum / 6 % 7 = (start : Int) := ⟨(ns.sum / 6 % 7).toNat, by omega, by omega⟩
  obtain ⟨step, hst1, hst2, hst⟩ := hs1
  obtain ⟨start, hsa, hsta⟩ := hs2
  refine Wp.seq (WS.assign (V := .int step) (by rw [← hst]; exact Ev.iop (Ev.int 1 _) (Ev.iop (Ev.sum G (Ev.v rfl) rfl) (Ev.int 6 _) (IntOp.mod _ _ (by decide))) (IntOp.add _ _)) rfl (.inl rfl) (wn ?_))
  refine Wp.seq (WS.assign (V := .int start) (by rw [← hsta]; exact Ev.iop (Ev.iop (Ev.sum G (Ev.v rfl) rfl) (Ev.int 6 _) (IntOp.div _ _ (by decide) (by decide))) (Ev.int 7 _) (IntOp.mod _ _ (by decide))) rfl (.inl rfl) (wn ?_))
  refine Wp.seq (WS.assignMat (row := List.replicate 7 false) (Ev.rangeY G (n := 7) (Ev.int 7 _) (by omega)) (fun x hx => ?_) (by simp) (fun a rs => wn ?_) rfl (frOk (by rfl)) (tgOk (by rfl)) (by rfl))
  · obtain ⟨i, _, rfl⟩ := List.mem_map.mp hx
    exact ⟨rfl, _, rfl, Ev.mulList (n := 7) (Ev.list (EvA.cons (Ev.bool false _) EvA.nil) (by simp [foot]) (by simp)) (Ev.int 7 _) rfl (by omega)⟩
  rw [show List.replicate ((List.range 7).map fun (i : Nat) => V.int i).length (List.replicate 7 false) = tab fun _ _ => false by decide]
  have hmin : ∃ m : Nat, m ≤ 12 ∧ (if ((ns.map V.int).length : Int) < 12 then ((ns.map V.int).length : Int) else 12) = (m : Int) := by
    split
    · exact ⟨(ns.map V.int).length, by omega, rfl⟩
    · exact ⟨12, by omega, rfl⟩
  obtain ⟨m, hm12, hm⟩ := hmin
  refine Wp.seq (WS.assignComp (xs := (List.range m).map fun (i : Nat) => V.int i) (fun _ => true) (fun x => match x with | .int i => V.int (pickV ns (some i) none (some 12)).sum | _ => .none)
    (Ev.rangeY G (n := m) (by rw [← hm]; exact Ev.min2 G (Ev.int 12 _) (Ev.len G (Ev.v rfl) rfl (by simp; omega))) (by omega)) (fun x hx => ?_) (by simp; omega) (fun b => wn ?_) rfl (frOk (by rfl)) (tgOk (by rfl)) (by rfl))
  · obtain ⟨i, _, rfl⟩ := List.mem_map.mp hx
    exact ⟨rfl, _, rfl, Tsts.nil, fun _ U => El.ofEv (Ev.sum G (ns := pickV ns (some (i : Int)) none (some 12)) (Ev.freeze (by
      rw [← pickV_map]
      exact Ev.slice (ops := fun o v => [o, v]) (Ev.v rfl) rfl (.some (Ev.v rfl)) .none (.some (Ev.int 12 _)) (by simp) (by simp; omega) (fun _ _ => rfl))) rfl) rfl (by simp)⟩
  obtain ⟨nums, hnums⟩ := ints_all (xs := (((List.range m).map fun (i : Nat) => V.int i).filter fun _ => true).map (fun x => match x with | .int i => V.int (pickV ns (some i) none (some 12)).sum | _ => .none)) (fun x hx => by
    obtain ⟨y, hy, rfl⟩ := List.mem_map.mp hx
    obtain ⟨i, _, rfl⟩ := List.mem_map.mp (List.mem_filter.mp hy).1
    exact ⟨_, rfl⟩)
  have hnl : nums.length ≤ 12 := by
    have := congrArg List.length hnums
    rw [List.length_map, List.length_map] at this
    have h2 := List.length_filter_le (fun _ => true) ((List.range m).map fun (i : Nat) => V.int i)
    rw [List.length_map, List.length_range] at h2
    omega
  rw [hnums]
  obtain ⟨sa, sws, hsm, hst', hsi⟩ := G.seeds
  let pz : Nat → Nat → Prop := fun i u => i = (u * step + start) % 7
  refine Wp.seq (WS.for_ (xs := ([7, 23, 39].map V.int) ++ nums.map V.int) (fun i ρ' => ∃ f, Sub [("before", .mat a rs (tab f)), ("step", .int step), ("start", .int start)] ρ' ∧ ∀ i j, f i j = true → ∃ u v, u < v ∧ v < 7 ∧ i = (u * step + start) % 7 ∧ j = (v * step + start) % 7)
    (Ev.yields_fl (Ev.freeze (Ev.addList (Ev.listTup (ns := [7, 23, 39]) G.ok rfl (G.bi _ (by simp)) rfl hsm hst' hsi (by simp)) (Ev.v rfl) (by simp; omega)))) (stT (by rfl)) ⟨_, .cons rfl (.cons rfl (.cons rfl .nil)), by simp⟩ ?_ ?_)
  · rintro i x ρ' hx ⟨f, hsub, hf⟩
    have hxi : ∃ z, x = .int z := by
      have := List.mem_of_getElem? hx
      rcases List.mem_append.mp this with h | h
      · obtain ⟨z, _, rfl⟩ := List.mem_map.mp h; exact ⟨z, rfl⟩
      · obtain ⟨z, _, rfl⟩ := List.mem_map.mp h; exact ⟨z, rfl⟩
    obtain ⟨z, rfl⟩ := hxi
    refine ⟨rfl, _, rfl, ?_⟩
    refine Wp.sub (ρ' := [("x", .int z), ("before", .mat a rs (tab f)), ("step", .int step), ("start", .int start)]) (.cons rfl (.cons (hsub _ _ rfl) (.cons (hsub _ _ rfl) (.cons (hsub _ _ rfl) .nil)))) ?_
    have ha : ∃ u : Nat, u < 7 ∧ z % 7 = (u : Int) := ⟨(z % 7).toNat, by omega, by omega⟩
    have hb : ∃ v : Nat, v < 7 ∧ z / 7 % 7 = (v : Int) := ⟨(z / 7 % 7).toNat, by omega, by omega⟩
    obtain ⟨u, hu, hue⟩ := ha
    obtain ⟨v, hv, hve⟩ := hb
    refine Wp.seq (WS.assign (V := .int u) (by rw [← hue]; exact Ev.iop (Ev.v rfl) (Ev.int 7 _) (IntOp.mod _ _ (by decide))) rfl (.inl rfl) (wn ?_))
    refine Wp.seq (WS.assign (V := .int v) (by rw [← hve]; exact Ev.iop (Ev.iop (Ev.v rfl) (Ev.int 7 _) (IntOp.div _ _ (by decide) (by decide))) (Ev.int 7 _) (IntOp.mod _ _ (by decide))) rfl (.inl rfl) (wn ?_))
    refine Wp.seq (WS.if_ (Tst.cmp (Ev.v rfl) (Ev.v rfl) (CmpOk.ine _ _)) (fun hne => ?_) fun hne => Wp.nil (wn (Wp.nil ⟨f, .cons rfl (.cons rfl (.cons rfl .nil)), hf⟩)))
    have huv : u ≠ v := by intro e; subst e; simp at hne
    have e1 : ∀ w : Nat, (((w : Int) * (step : Int) + (start : Int)) % 7) = (((w * step + start) % 7 : Nat) : Int) := fun w => by push_cast; rfl
    have hmn : (if (v : Int) < (u : Int) then (v : Int) else (u : Int)) = ((min u v : Nat) : Int) := by split <;> omega
    have hmx : (if (v : Int) > (u : Int) then (v : Int) else (u : Int)) = ((max u v : Nat) : Int) := by split <;> omega
    refine Wp.seq (WS.setM (n := (min u v * step + start) % 7) (m := (max u v * step + start) % 7) (b := true) (row := (List.range 7).map fun b => f ((min u v * step + start) % 7) b) (a := a) (rs := rs) (rows := tab f) rfl (.inl rfl) (Ev.bool true _)
      (Ev.iop (Ev.iop (Ev.iop (Ev.min2 G (Ev.v rfl) (Ev.v rfl)) (Ev.v rfl) (IntOp.mulS _ _ (.inl (by rw [hmn]; omega)))) (Ev.v rfl) (IntOp.add _ _)) (Ev.int 7 _) (IntOp.mod _ _ (by decide)))
      (Ev.iop (Ev.iop (Ev.iop (Ev.max2 G (Ev.v rfl) (Ev.v rfl)) (Ev.v rfl) (IntOp.mulS _ _ (.inl (by rw [hmx]; omega)))) (Ev.v rfl) (IntOp.add _ _)) (Ev.int 7 _) (IntOp.mod _ _ (by decide)))
      (by rw [hmn]; exact e1 _) (by rw [hmx]; exact e1 _) (tab_row (by omega)) (by simp; omega) (by rw [tab_len]; omega) (by simp) (wn (Wp.nil (wn (Wp.nil ?_)))))
    refine ⟨upd f ((min u v * step + start) % 7) ((max u v * step + start) % 7) true, .cons (by rw [← tab_set (by omega) (by omega)]; rfl) (.cons rfl (.cons rfl .nil)), fun i j hij => ?_⟩
    unfold upd at hij
    split at hij
    · rename_i h; exact ⟨min u v, max u v, by omega, by omega, h.1, h.2⟩
    · exact hf i j hij
  rintro ρ' ⟨f, hsub, hf⟩
  refine wn (Wp.sub (ρ' := [("before", .mat a rs (tab f))]) (.cons (hsub _ _ rfl) .nil) ?_)
  obtain ⟨r, hr⟩ : ∃ r : Nat → Nat, ∀ i j, i < 7 → j < 7 → f i j = true → r i < r j := ⟨rankOf step start, fun i j _ _ h => by
    obtain ⟨u, v, h1, h2, rfl, rfl⟩ := hf i j h
    rw [rank_ok step hst2 hst1 start hsa u (by omega), rank_ok step hst2 hst1 start hsa v h2]; exact h1⟩
  have rg : (List.range 7).map (fun (i : Nat) => V.int i) = (List.range 7).map (fun (i : Nat) => V.int i) := rfl
  have at7 : ∀ {i : Nat} {x : V}, ((List.range 7).map fun (i : Nat) => V.int i)[i]? = some x → i < 7 ∧ x = .int (i : Nat) := fun {i x} h => by
    have hi := (List.getElem?_eq_some_iff.mp h).1
    simp only [List.length_map, List.length_range] at hi
    rw [List.getElem?_map, List.getElem?_range hi] at h
    exact ⟨hi, by simpa using h.symm⟩
  refine Wp.seq (WS.for_ (xs := (List.range 7).map fun (i : Nat) => V.int i) (fun k ρ' => ∃ f, Sub [("before", .mat a rs (tab f))] ρ' ∧ (∀ i j, i < 7 → j < 7 → f i j = true → r i < r j) ∧ Through f k) (Ev.rangeY G (n := 7) (Ev.int 7 _) (by omega)) (stT (by rfl)) ⟨f, .cons rfl .nil, hr, fun _ _ _ _ _ h => by omega⟩ ?_ ?_)
  · rintro k x ρ' hx ⟨f0, hsub, hr0, ht0⟩
    obtain ⟨hk, rfl⟩ := at7 hx
    refine ⟨rfl, _, rfl, Wp.sub (ρ' := [("middle", .int (k : Nat)), ("before", .mat a rs (tab f0))]) (.cons rfl (.cons (hsub _ _ rfl) .nil)) ?_⟩
    refine Wp.seq (WS.for_ (xs := (List.range 7).map fun (i : Nat) => V.int i) (fun u ρ' => ∃ f, Sub [("middle", .int (k : Nat)), ("before", .mat a rs (tab f))] ρ' ∧ Mid f0 k f u 0) (Ev.rangeY G (n := 7) (Ev.int 7 _) (by omega)) (stT (by rfl)) ⟨f0, .cons rfl (.cons rfl .nil), Mid.start f0 k⟩ ?_ ?_)
    · rintro u x ρ' hx ⟨f1, hsub, hm1⟩
      obtain ⟨hu, rfl⟩ := at7 hx
      refine ⟨rfl, _, rfl, Wp.sub (ρ' := [("a", .int (u : Nat)), ("middle", .int (k : Nat)), ("before", .mat a rs (tab f1))]) (.cons rfl (.cons (hsub _ _ rfl) (.cons (hsub _ _ rfl) .nil))) ?_⟩
      refine Wp.seq (WS.for_ (xs := (List.range 7).map fun (i : Nat) => V.int i) (fun v ρ' => ∃ f, Sub [("a", .int (u : Nat)), ("middle", .int (k : Nat)), ("before", .mat a rs (tab f))] ρ' ∧ Mid f0 k f u v) (Ev.rangeY G (n := 7) (Ev.int 7 _) (by omega)) (stT (by rfl)) ⟨f1, .cons rfl (.cons rfl (.cons rfl .nil)), hm1⟩ ?_ ?_)
      · rintro v x ρ' hx ⟨f2, hsub, hm2⟩
        obtain ⟨hv, rfl⟩ := at7 hx
        refine ⟨rfl, _, rfl, Wp.sub (ρ' := [("b", .int (v : Nat)), ("a", .int (u : Nat)), ("middle", .int (k : Nat)), ("before", .mat a rs (tab f2))]) (.cons rfl (.cons (hsub _ _ rfl) (.cons (hsub _ _ rfl) (.cons (hsub _ _ rfl) .nil)))) ?_⟩
        have rd : ∀ {n m : Nat} {e1 e2 : Expr} {p1 p2 : Pos} {pp : Pos}, n < 7 → m < 7 → Ev c 0 (fdef 11).scope [("b", .int (v : Nat)), ("a", .int (u : Nat)), ("middle", .int (k : Nat)), ("before", .mat a rs (tab f2))] e1 (Is c (.int (n : Nat))) → Ev c 0 (fdef 11).scope [("b", .int (v : Nat)), ("a", .int (u : Nat)), ("middle", .int (k : Nat)), ("before", .mat a rs (tab f2))] e2 (Is c (.int (m : Nat))) →
            (∀ o v, subscripted e1 false o v = operate [o, v] (getItem o v)) → (∀ o v, subscripted e2 false o v = operate [o, v] (getItem o v)) →
            Ev c 0 (fdef 11).scope [("b", .int (v : Nat)), ("a", .int (u : Nat)), ("middle", .int (k : Nat)), ("before", .mat a rs (tab f2))] (.Subscript (.Subscript (.Name "before" pp) e1 p1) e2 p2) (Is c (.bool (f2 n m))) := fun hn hm h1 h2 s1 s2 =>
          Ev.subM (Ev.v rfl) h1 h2 rfl rfl (tab_row hn) (row_at hm) (by rw [tab_len]; omega) (by simp) s1 s2
        refine Wp.seq (WS.setM (n := u) (m := v) (b := f2 u v || (f2 u k && f2 k v)) (row := (List.range 7).map fun b => f2 u b) (a := a) (rs := rs) (rows := tab f2) rfl (.inl rfl)
          (Ev.or (rd hu hv (Ev.v rfl) (Ev.v rfl) (fun _ _ => rfl) (fun _ _ => rfl)) fun _ => Ev.and (rd hu hk (Ev.v rfl) (Ev.v rfl) (fun _ _ => rfl) (fun _ _ => rfl)) fun _ => rd hk hv (Ev.v rfl) (Ev.v rfl) (fun _ _ => rfl) (fun _ _ => rfl))
          (Ev.v rfl) (Ev.v rfl) rfl rfl (tab_row hu) (by simp; omega) (by rw [tab_len]; omega) (by simp) (wn (Wp.nil ?_)))
        exact ⟨_, .cons rfl (.cons rfl (.cons (by rw [← tab_set hu hv]; rfl) .nil)), hm2.step hk hu hv⟩
      · rintro ρ' ⟨f2, hsub, hm2⟩
        exact wn (Wp.nil ⟨f2, .cons (hsub _ _ rfl) (.cons (hsub _ _ rfl) .nil), Mid.row (by simpa using hm2)⟩)
    · rintro ρ' ⟨f1, hsub, hm1⟩
      have hm1' : Mid f0 k f1 7 0 := by simpa using hm1
      refine wn (Wp.nil ⟨f1, .cons (hsub _ _ rfl) .nil, fun i j hi hj h => ?_, hm1'.done hk ht0⟩)
      have := (hm1' i j hi hj).2.1 h
      unfold Tk at this
      simp only [Bool.or_eq_true, Bool.and_eq_true] at this
      rcases this with h | ⟨h1, h2⟩
      · exact hr0 i j hi hj h
      · exact Nat.lt_trans (hr0 i k hi hk h1) (hr0 k j hk hj h2)
  · rintro ρ' ⟨f, hsub, hr', ht⟩
    refine wn (Wp.sub hsub (Wp.freezeM (x := "before") rfl (Wp.seq (WS.ret (Ev.v rfl) rfl (by simp) ⟨f, ⟨⟨r, hr'⟩, fun i j k hi hj hk h1 h2 => ht i k j hi hk (by simpa using hj) hj h1 h2⟩, rfl⟩))))
end Mine
end
section
open PySem PyProof.Rows PySem.Calls
set_option maxRecDepth 10000
set_option linter.unusedVariables false
namespace Mine
theorem filter_dec {α : Type} {e : α → V} {dec : V → α} (h : ∀ a, dec (e a) = a) (p : α → Bool) (g : α → V) (l : List α) : (((l.map e).filter fun v => p (dec v)).map fun v => g (dec v)) = (l.filter p).map g := by
  induction l with
  | nil => rfl
  | cons a r ih =>
    rw [List.map_cons, List.filter_cons, List.filter_cons, h]
    cases p a <;> simp [ih, h]

section
variable {c : Cx} {k : Nat} {sc scope : Scope} {ρ : Rho} {P : Fl → Rho → Prop}
theorem Ev.compM {α : Type} (e : α → V) (dec : V → α) (hdec : ∀ a, dec (e a) = a) {l : List α} {elt target iter : Expr} {ifs : List Expr} {pos : Pos} (p : α → Bool) (g : α → V) (hiter : Ev c k sc ρ iter (Yields c (l.map e)))
    (hb : ∀ a ∈ l, foot (e a) = [] ∧ ∃ bs, bindT target (e a) = some bs ∧ Tsts c k (relab scope sc) (bs ++ cap scope ρ) ifs (p a) ∧ (p a = true → ∀ U, El c k (relab scope sc) U (JV c U) (bs ++ cap scope ρ) elt (g a)))
    (hlen : l.length ≤ 2 ^ 20) (hfree : (scope.names.all fun p => p.2 != .free || (sc.names.lookup p.1 == some .cell || sc.names.lookup p.1 == some .free)) = true := by rfl)
    (ht : ((tgtNames target).all fun x => scope.names.lookup x == some .local || scope.names.lookup x == some .cell) = true := by rfl)
    (hs : ∀ env x, foldedSetIterable iter env x = pure x := by intros; rfl) (hkind : scope.kind = .function := by rfl) (hnd : (scope.names.map (·.1)).Nodup := by decide) :
    Ev c k sc ρ (.ListComp elt [⟨target, iter, ifs, 0⟩] scope pos) (New c ((l.filter p).map g)) := by
  rw [← filter_dec hdec p g l]
  refine Ev.comp (fun v => p (dec v)) (fun v => g (dec v)) hiter (fun x hx => ?_) (by simpa using hlen) hs hkind hnd (frOk hfree) (tgOk ht)
  obtain ⟨a, ha, rfl⟩ := List.mem_map.mp hx
  rw [hdec]
  exact hb a ha
theorem WS.compM {α : Type} (e : α → V) (dec : V → α) (hdec : ∀ a, dec (e a) = a) {l : List α} {elt target iter : Expr} {ifs : List Expr} {pos p0 px : Pos} {x : Str} (p : α → Bool) (g : α → V) (hiter : Ev c k sc ρ iter (Yields c (l.map e)))
    (hb : ∀ a ∈ l, foot (e a) = [] ∧ ∃ bs, bindT target (e a) = some bs ∧ Tsts c k (relab scope sc) (bs ++ cap scope ρ) ifs (p a) ∧ (p a = true → ∀ U, El c k (relab scope sc) U (JV c U) (bs ++ cap scope ρ) elt (g a)))
    (hlen : l.length ≤ 2 ^ 20) (hp : ∀ a, P .nrm ((x, .list a ((l.filter p).map g)) :: ρ)) (hx : sc.names.lookup x = some .local := by rfl) (hsw : swapB sc elt [⟨target, iter, ifs, 0⟩] scope p0 x px = true := by rfl)
    (hfree : (scope.names.all fun p => p.2 != .free || (sc.names.lookup p.1 == some .cell || sc.names.lookup p.1 == some .free)) = true := by rfl)
    (ht : ((tgtNames target).all fun x => scope.names.lookup x == some .local || scope.names.lookup x == some .cell) = true := by rfl)
    (hs : ∀ env x, foldedSetIterable iter env x = pure x := by intros; rfl) (hkind : scope.kind = .function := by rfl) (hnd : (scope.names.map (·.1)).Nodup := by decide) :
    WS c k sc (.Assign [.Name x px] (.ListComp elt [⟨target, iter, ifs, 0⟩] scope p0) pos) ρ P := by
  refine WS.assignComp (fun v => p (dec v)) (fun v => g (dec v)) hiter (fun x hx => ?_) (by simpa using hlen) (fun a => by rw [filter_dec hdec p g l]; exact hp a) hx (frOk hfree) (tgOk ht) hsw hs hkind hnd
  obtain ⟨a, ha, rfl⟩ := List.mem_map.mp hx
  rw [hdec]
  exact hb a ha
def nV (i : Nat) : V := .int i
def nD : V → Nat | .int i => i.toNat | _ => 0
theorem nDV (i : Nat) : nD (nV i) = i := by simp [nV, nD]
def pV (p : Nat × Nat) : V := .pair p.1 p.2
def pD : V → Nat × Nat | .pair a b => (a.toNat, b.toNat) | _ => (0, 0)
theorem pDV (p : Nat × Nat) : pD (pV p) = p := by simp [pV, pD]
end

section
variable {c : Cx} {k : Nat} {sc : Scope} {ρ : Rho} {pos p1 : Pos}
/-- before[i][j], the matrix frozen -/
theorem Ev.rdF {e i j : Expr} {f : Nat → Nat → Bool} {n m : Nat} {ni mi : Int} (he : Ev c k sc ρ e (Is c (.fl (rowsV (tab f))))) (hi : Ev c k sc ρ i (Is c (.int ni))) (hj : Ev c k sc ρ j (Is c (.int mi))) (hni : ni = (n : Int)) (hmi : mi = (m : Int)) (hn : n < 7) (hm : m < 7)
    (hsl : ∀ o v, subscripted i false o v = operate [o, v] (getItem o v) := by intro _ _; rfl) (hsl' : ∀ o v, subscripted j false o v = operate [o, v] (getItem o v) := by intro _ _; rfl) :
    Ev c k sc ρ (.Subscript (.Subscript e i p1) j pos) (Is c (.bool (f n m))) :=
  Ev.subL (x := .fl (((List.range 7).map fun b => f n b).map V.bool)) (l := ((List.range 7).map fun b => f n b).map V.bool) (n := m)
    (Ev.subL (l := rowsV (tab f)) (n := n) he hi rfl hni (by unfold rowsV; rw [List.getElem?_map, tab_row hn]; rfl) (by simp [rowsV, tab]) hsl) hj rfl hmi (by rw [List.getElem?_map, row_at hm]; rfl) (by simp) hsl'
end

theorem sig12 : Sig (fdef 12) ["before"] := Sig.of (by decide +kernel) fun pm code doc vs h => by
  match vs, h with
  | [a], _ => rfl
/-- a before b, none between -/
def cov (f : Nat → Nat → Bool) (a b : Nat) : Bool := f a b && !((List.range 7).any fun c => f a c && f c b)
def tieL (f : Nat → Nat → Bool) : List (Nat × Nat) := (List.range 7).flatMap fun a => ((List.range 7).filter (cov f a)).map fun b => (a, b)
theorem at7 {i : Nat} {x : V} (h : ((List.range 7).map nV)[i]? = some x) : i < 7 ∧ x = .int (i : Nat) := by
  have hi := (List.getElem?_eq_some_iff.mp h).1
  simp only [List.length_map, List.length_range] at hi
  rw [List.getElem?_map, List.getElem?_range hi] at h
  exact ⟨hi, by simpa [nV] using h.symm⟩

theorem tie_len (f : Nat → Nat → Bool) (i : Nat) : ((List.range i).flatMap fun a => ((List.range 7).filter (cov f a)).map fun b => (a, b)).length ≤ 7 * i := by
  induction i with
  | zero => simp
  | succ i ih =>
    rw [List.range_succ (n := i), List.flatMap_append, List.length_append]
    have := List.length_filter_le (cov f i) (List.range 7)
    simp at this ⊢
    simp at ih
    omega
theorem w12 {c : Cx} (G : Ground c) (f : Nat → Nat → Bool) : PureFn c 0 (fdef 12) [.fl (rowsV (tab f))] (fun y => y = .fl ((tieL f).map pV)) := by
  refine PureFn.of (ps := ["before"]) G.ok sig12 rfl (G.fn 12 (by simp)) (by simp [foot]) (P := fun fl ρ' => fl = .ret (.fl ((tieL f).map pV))) ?_ (fun fl ρ' h2 => by rw [h2]; rfl)
  refine Wp.seq (WS.assignNew Ev.nil (.inl rfl) (fun ad => wn ?_))
  refine Wp.seq (WS.for_ (xs := (List.range 7).map nV) (fun i ρ' => Sub [("ties", .list ad (((List.range i).flatMap fun a => ((List.range 7).filter (cov f a)).map fun b => (a, b)).map pV)), ("before", .fl (rowsV (tab f)))] ρ')
    (Ev.rangeY G (n := 7) (Ev.int 7 _) (by omega)) (stT (by rfl)) (.cons rfl (.cons rfl .nil)) ?_ ?_)
  · rintro i x ρ' hx hsub
    obtain ⟨hi, rfl⟩ := at7 hx
    generalize hT : ((List.range i).flatMap fun a => ((List.range 7).filter (cov f a)).map fun b => (a, b)) = T at hsub
    refine ⟨rfl, _, rfl, Wp.sub (ρ' := [("a", .int (i : Nat)), ("ties", .list ad (T.map pV)), ("before", .fl (rowsV (tab f)))]) (.cons rfl (.cons (hsub _ _ rfl) (.cons (hsub _ _ rfl) .nil))) ?_⟩
    have hTl : T.length ≤ 7 * i := by rw [← hT]; exact tie_len f i
    refine Wp.seq (WS.for_ (xs := (List.range 7).map nV) (fun j ρ' => Sub [("a", .int (i : Nat)), ("ties", .list ad ((T ++ ((List.range j).filter (cov f i)).map fun b => (i, b)).map pV)), ("before", .fl (rowsV (tab f)))] ρ')
      (Ev.rangeY G (n := 7) (Ev.int 7 _) (by omega)) (stT (by rfl)) (.cons rfl (.cons (by simp; rfl) (.cons rfl .nil))) ?_ ?_)
    · rintro j x ρ' hx hsub
      obtain ⟨hj, rfl⟩ := at7 hx
      generalize hU : (T ++ ((List.range j).filter (cov f i)).map fun b => (i, b)) = U at hsub
      have hUl : U.length ≤ 49 := by
        rw [← hU, List.length_append, List.length_map]
        have := List.length_filter_le (cov f i) (List.range j)
        simp at this; omega
      have hnext : (T ++ ((List.range (j + 1)).filter (cov f i)).map fun b => (i, b)) = if cov f i j = true then U ++ [(i, j)] else U := by
        rw [List.range_succ, List.filter_append, List.map_append, ← List.append_assoc, hU]
        by_cases h : cov f i j = true <;> simp [h]
      refine ⟨rfl, _, rfl, Wp.sub (ρ' := [("b", .int (j : Nat)), ("a", .int (i : Nat)), ("ties", .list ad (U.map pV)), ("before", .fl (rowsV (tab f)))]) (.cons rfl (.cons (hsub _ _ rfl) (.cons (hsub _ _ rfl) (.cons (hsub _ _ rfl) .nil)))) ?_⟩
      refine Wp.seq (WS.if_ (b := cov f i j) (Tst.and (Tst.val (Ev.rdF (f := f) (n := i) (m := j) (Ev.v rfl) (Ev.v rfl) (Ev.v rfl) rfl rfl hi hj) (Tru.bool _)) fun _ => Tst.not
        (Tst.cmp (Ev.bool true _) (Ev.freeze (Ev.compM nV nD nDV (l := List.range 7) (fun _ => true) (fun x => .bool (f i x && f x j)) (Ev.rangeY G (n := 7) (Ev.int 7 _) (by omega)) (fun x hx => ?_) (by simp)))
          (by
            have := CmpOk.inBools (c := c) (y := .fl (((List.range 7).filter fun _ => true).map fun x => V.bool (f i x && f x j))) (bs := (List.range 7).map fun x => f i x && f x j) true (by rw [List.filter_eq_self.mpr (by simp)]; simp [V.items, List.map_map, Function.comp_def])
            simpa [List.any_map, Function.comp_def] using this))) (fun h => ?_) (fun h => ?_))
      · have hx7 : x < 7 := by simpa using hx
        exact ⟨rfl, _, rfl, Tsts.nil, fun _ U => El.ofEv (Ev.and (Ev.rdF (f := f) (n := i) (m := x) (Ev.v rfl) (Ev.v rfl) (Ev.v rfl) rfl rfl hi hx7) fun _ => Ev.rdF (f := f) (n := x) (m := j) (Ev.v rfl) (Ev.v rfl) (Ev.v rfl) rfl rfl hx7 hj) rfl (by simp)⟩
      · refine Wp.seq (WS.append (a := ad) (l := U.map pV) rfl (.inl rfl) (Ev.pair (Ev.v rfl) (Ev.v rfl)) rfl (by simp) (by simp; omega) (wn (Wp.nil (wn (Wp.nil ?_)))))
        rw [hnext, if_pos h]
        exact .cons rfl (.cons (by simp [pV]) (.cons rfl .nil))
      · refine Wp.nil (wn (Wp.nil ?_))
        rw [hnext, if_neg (by simp [h])]
        exact .cons rfl (.cons rfl (.cons rfl .nil))
    · rintro ρ' hsub
      have e : T ++ ((List.range 7).filter (cov f i)).map (fun b => (i, b)) = (List.range (i + 1)).flatMap fun a => ((List.range 7).filter (cov f a)).map fun b => (a, b) := by
        rw [List.range_succ (n := i), List.flatMap_append, hT]; simp
      refine wn (Wp.nil ?_)
      show Sub _ ρ'
      rw [← e]
      exact .cons (hsub _ _ rfl) (.cons (hsub _ _ rfl) .nil)
  · rintro ρ' hsub
    exact wn (Wp.sub hsub (Wp.freezeL (x := "ties") rfl (Wp.seq (WS.ret (Ev.v rfl) rfl (by simp) rfl))))
end Mine
end
section
open PySem PyProof.Rows PySem.Calls
set_option maxRecDepth 10000
set_option linter.unusedVariables false
namespace Mine
theorem fm_congr {α β : Type} {f g : α → List β} : ∀ {l : List α}, (∀ x ∈ l, f x = g x) → l.flatMap f = l.flatMap g
  | [], _ => rfl
  | x :: r, h => by rw [List.flatMap_cons, List.flatMap_cons, h x (by simp), fm_congr fun y hy => h y (by simp [hy])]
theorem Ev.cast {c : Cx} {k : Nat} {sc : Scope} {ρ : Rho} {e : Expr} {a b : Int} (h : a = b) (he : Ev c k sc ρ e (Is c (.int a))) : Ev c k sc ρ e (Is c (.int b)) := h ▸ he
theorem Tst.cast {c : Cx} {k : Nat} {sc : Scope} {ρ : Rho} {e : Expr} {a b : Bool} (h : a = b) (he : Tst c k sc ρ e a) : Tst c k sc ρ e b := h ▸ he
theorem Ev.castB {c : Cx} {k : Nat} {sc : Scope} {ρ : Rho} {e : Expr} {a b : Bool} (h : a = b) (he : Ev c k sc ρ e (Is c (.bool a))) : Ev c k sc ρ e (Is c (.bool b)) := h ▸ he
theorem Ev.castF {c : Cx} {k : Nat} {sc : Scope} {ρ : Rho} {e : Expr} {a b : List V} (h : a = b) (he : Ev c k sc ρ e (Is c (.fl a))) : Ev c k sc ρ e (Is c (.fl b)) := h ▸ he
theorem Ev.castN {c : Cx} {k : Nat} {sc : Scope} {ρ : Rho} {e : Expr} {a b : List V} (h : a = b) (he : Ev c k sc ρ e (New c a)) : Ev c k sc ρ e (New c b) := h ▸ he
def tabI (g : Nat → Int) : List V := (List.range 7).map fun v => V.int (g v)
theorem tabI_len (g) : (tabI g).length = 7 := by simp [tabI]
theorem tabI_at {g : Nat → Int} {v : Nat} (h : v < 7) : (tabI g)[v]? = some (.int (g v)) := by simp [tabI, h]
theorem tabI_set {g : Nat → Int} {v : Nat} {x : Int} (h : v < 7) : (tabI g).set v (.int x) = tabI fun w => if w = v then x else g w := by
  apply List.ext_getElem?
  intro w
  by_cases hw : w < 7
  · rw [tabI_at hw]
    by_cases e : w = v
    · subst e; rw [List.getElem?_set_self (by rw [tabI_len]; exact h)]; simp
    · rw [List.getElem?_set_ne (Ne.symm e), tabI_at hw]; simp [e]
  · rw [List.getElem?_eq_none (by simp [tabI_len]; omega), List.getElem?_eq_none (by rw [tabI_len]; omega)]
def hourV (h : List Nat) : V := .fl (h.map nV)
theorem sig15 : Sig (fdef 15) ["hours", "before"] := Sig.of (by decide +kernel) fun pm code doc vs h => by
  match vs, h with
  | [a, b], _ => rfl

structure Sched (f : Nat → Nat → Bool) (hs : List (List Nat)) : Prop where
  lt : ∀ h ∈ hs, ∀ v ∈ h, v < 7
  nd : hs.flatten.Nodup
  all : ∀ v, v < 7 → v ∈ hs.flatten
  ord : ∀ a b, a < 7 → b < 7 → f a b = true → ∀ (i j : Nat) x y, hs[i]? = some x → a ∈ x → hs[j]? = some y → b ∈ y → i < j
  len : hs.length ≤ 7

theorem w15 {c : Cx} (G : Ground c) {f : Nat → Nat → Bool} {hs : List (List Nat)} (H : Sched f hs) : PureFn c 0 (fdef 15) [.fl (hs.map hourV), .fl (rowsV (tab f))] (fun y => y = .bool true) := by
  refine PureFn.of (ps := ["hours", "before"]) G.ok sig15 rfl (G.fn 15 (by simp)) (by simp [foot]) (P := fun fl ρ' => fl = .ret (.bool true)) ?_ (fun fl ρ' h2 => by rw [h2]; rfl)
  refine Wp.seq (WS.assignNew (Ev.mulList (n := 7) (x := .int (-1)) (Ev.list (EvA.cons (Ev.neg (Ev.int 1 _)) EvA.nil) (by simp [foot]) (by simp)) (Ev.int 7 _) rfl (by omega)) (.inr rfl) (fun ad => wn ?_))
  rw [show List.replicate 7 (V.int (-1)) = tabI fun _ => -1 by rfl]
  let B : Rho := [("hours", .fl (hs.map hourV)), ("before", .fl (rowsV (tab f)))]
  refine Wp.seq (WS.for_ (xs := (List.range hs.length).map nV) (fun i ρ' => ∃ g, Sub [("place", .list ad (tabI g)), ("hours", .fl (hs.map hourV)), ("before", .fl (rowsV (tab f)))] ρ' ∧ ∀ v, v < 7 → (v ∉ (hs.take i).flatten → g v = -1) ∧ (∀ k, k < i → ∀ h, hs[k]? = some h → v ∈ h → g v = (k : Int)))
    (Ev.rangeY G (n := hs.length) (Ev.cast (by simp) (Ev.len G (Ev.v (V := .fl (hs.map hourV)) rfl) rfl (by simp; have := H.len; omega))) (by have := H.len; omega)) (stT (by rfl)) ⟨_, .cons rfl (.cons rfl (.cons rfl .nil)), fun v hv => ⟨fun _ => rfl, fun k hk => by omega⟩⟩ ?_ ?_)
  · rintro i x ρ' hx ⟨g, hsub, hg⟩
    have hi : i < hs.length := by have := (List.getElem?_eq_some_iff.mp hx).1; simpa using this
    have hxv : x = .int (i : Nat) := by
      rw [List.getElem?_map, List.getElem?_range hi] at hx; simpa [nV] using hx.symm
    subst hxv
    have hh : hs[i]? = some hs[i] := by simp [hi]
    generalize hhe : hs[i] = h at hh
    refine ⟨rfl, _, rfl, Wp.sub (ρ' := [("h", .int (i : Nat)), ("place", .list ad (tabI g)), ("hours", .fl (hs.map hourV)), ("before", .fl (rowsV (tab f)))]) (.cons rfl (.cons (hsub _ _ rfl) (.cons (hsub _ _ rfl) (.cons (hsub _ _ rfl) .nil)))) ?_⟩
    have hsplit : hs = hs.take i ++ h :: hs.drop (i + 1) := by
      have := List.take_append_drop i hs
      rw [List.drop_eq_getElem_cons hi, hhe] at this
      exact this.symm
    have hfl : hs.flatten = (hs.take i).flatten ++ (h ++ (hs.drop (i + 1)).flatten) := by
      conv => lhs; rw [hsplit]
      simp
    have hnd := H.nd
    rw [hfl] at hnd
    refine Wp.seq (WS.for_ (xs := h.map nV) (fun j ρ' => ∃ g, Sub [("h", .int (i : Nat)), ("place", .list ad (tabI g)), ("hours", .fl (hs.map hourV)), ("before", .fl (rowsV (tab f)))] ρ' ∧ ∀ v, v < 7 → (v ∉ (hs.take i).flatten → v ∉ h.take j → g v = -1) ∧ (∀ k, k < i → ∀ h, hs[k]? = some h → v ∈ h → g v = (k : Int)) ∧ (v ∈ h.take j → g v = (i : Int)))
      (Ev.yields_fl (Ev.subL (n := i) (y := hourV h) (Ev.v rfl) (Ev.v rfl) rfl rfl (by rw [List.getElem?_map, hh]; rfl) (by simp; have := H.len; omega))) (stT (by rfl))
      ⟨g, .cons rfl (.cons rfl (.cons rfl (.cons rfl .nil))), fun v hv => ⟨fun q _ => (hg v hv).1 q, (hg v hv).2, fun q => by simp at q⟩⟩ ?_ ?_)
    · rintro j x ρ' hx ⟨g, hsub, hg⟩
      have hj : j < h.length := by have := (List.getElem?_eq_some_iff.mp hx).1; simpa using this
      have hxv : x = .int (h[j] : Nat) := by
        rw [List.getElem?_map, List.getElem?_eq_getElem hj] at hx; simpa [nV] using hx.symm
      generalize hve : h[j] = v at hxv
      subst hxv
      have hv7 : v < 7 := hve ▸ H.lt h (List.mem_of_getElem? hh) _ (List.getElem_mem hj)
      have hsp2 : h = h.take j ++ v :: h.drop (j + 1) := by
        have := List.take_append_drop j h
        rw [List.drop_eq_getElem_cons hj, hve] at this
        exact this.symm
      have hn1 : v ∉ (hs.take i).flatten := fun q => by
        have := (List.nodup_append.mp hnd).2.2 v q v (List.mem_append_left _ (hve ▸ List.getElem_mem hj))
        exact this rfl
      have hn2 : v ∉ h.take j := fun q => by
        have h1 : h.Nodup := ((List.nodup_append.mp hnd).2.1 |> List.nodup_append.mp).1
        rw [hsp2] at h1
        exact (List.nodup_append.mp h1).2.2 v q v (by simp) rfl
      refine ⟨rfl, _, rfl, Wp.sub (ρ' := [("v", .int (v : Nat)), ("h", .int (i : Nat)), ("place", .list ad (tabI g)), ("hours", .fl (hs.map hourV)), ("before", .fl (rowsV (tab f)))]) (.cons rfl (.cons (hsub _ _ rfl) (.cons (hsub _ _ rfl) (.cons (hsub _ _ rfl) (.cons (hsub _ _ rfl) .nil))))) ?_⟩
      refine Wp.seq (WS.if_ (b := false) (Tst.cast (by simp [(hg v hv7).1 hn1 hn2]) (Tst.cmp (Ev.subL (n := v) (y := .int (g v)) (Ev.v (V := .list ad (tabI g)) rfl) (Ev.v rfl) rfl rfl (tabI_at hv7) (by rw [tabI_len]; omega)) (Ev.neg (Ev.int 1 _)) (CmpOk.ine (g v) (-1)))) (fun h => by cases h) fun _ => Wp.nil (wn ?_))
      refine Wp.seq (WS.setL (n := v) (a := ad) (l := tabI g) (y := .int (i : Nat)) rfl (.inr rfl) (Ev.v rfl) (Ev.v rfl) rfl (by rw [tabI_len]; exact hv7) (by rw [tabI_len]; omega) rfl (by simp) (wn (Wp.nil ?_)))
      rw [tabI_set hv7]
      refine ⟨_, .cons rfl (.cons rfl (.cons rfl (.cons rfl .nil))), fun w hw => ?_⟩
      have htk : h.take (j + 1) = h.take j ++ [v] := by rw [List.take_add_one, List.getElem?_eq_getElem hj, hve]; rfl
      by_cases e : w = v
      · subst e
        simp only [if_true]
        refine ⟨fun _ q => absurd (by rw [htk]; simp) q, fun k hk x hx hwx => ?_, fun _ => trivial⟩
        exact absurd (List.mem_flatten.mpr ⟨x, List.mem_of_getElem? (by rw [List.getElem?_take, if_pos hk]; exact hx), hwx⟩) hn1
      · simp only [e, if_false]
        refine ⟨fun q1 q2 => (hg w hw).1 q1 fun q => q2 (by rw [htk]; simp [q]), (hg w hw).2.1, fun q => (hg w hw).2.2 ?_⟩
        rw [htk] at q
        simpa [e] using q
    · rintro ρ' ⟨g, hsub, hg⟩
      have e7 : h.take (h.map nV).length = h := by simp
      rw [e7] at hg
      refine wn (Wp.nil ⟨g, .cons (hsub _ _ rfl) (.cons (hsub _ _ rfl) (.cons (hsub _ _ rfl) .nil)), fun v hv => ⟨fun q => ?_, fun k hk x hxx hvx => ?_⟩⟩)
      · have : hs.take (i + 1) = hs.take i ++ [h] := by rw [List.take_add_one, hh]; rfl
        rw [this, List.flatten_append] at q
        simp only [List.flatten_cons, List.flatten_nil, List.append_nil, List.mem_append, not_or] at q
        exact (hg v hv).1 q.1 q.2
      · by_cases e : k = i
        · rw [e, hh] at hxx; cases hxx; rw [e]; exact (hg v hv).2.2 hvx
        · exact (hg v hv).2.1 k (by omega) x hxx hvx
  · rintro ρ' ⟨g, hsub, hg⟩
    have hfin : ∀ v, v < 7 → ∃ (k : Nat) (x : List Nat), hs[k]? = some x ∧ v ∈ x ∧ g v = (k : Int) := fun v hv => by
      obtain ⟨x, hx, hvx⟩ := List.mem_flatten.mp (H.all v hv)
      obtain ⟨k, hk⟩ := List.mem_iff_getElem?.mp hx
      have hkl := (List.getElem?_eq_some_iff.mp hk).1
      exact ⟨k, x, hk, hvx, (hg v hv).2 k (by simpa using hkl) x hk hvx⟩
    have hno : ∀ a b, a < 7 → b < 7 → (f a b && decide (g b ≤ g a)) = false := fun a b ha hb => by
      cases e : f a b with
      | false => rfl
      | true =>
        obtain ⟨i, x, h1, h2, h3⟩ := hfin a ha
        obtain ⟨j, y, h4, h5, h6⟩ := hfin b hb
        have := H.ord a b ha hb e i j x y h1 h2 h4 h5
        rw [h3, h6]
        simp; omega
    have nm : ((List.range 7).map g).any (· == -1) = false := by
      rw [List.any_eq_false]
      intro z hz
      obtain ⟨v, hv, rfl⟩ := List.mem_map.mp hz
      obtain ⟨k, _, _, _, e⟩ := hfin v (by simpa using hv)
      rw [e]; simp
    refine wn (Wp.sub hsub (Wp.seq (WS.ret (V := .bool true) (Ev.castB (a := true && true) rfl (Ev.and (Ev.castB (a := !false) rfl (Ev.not (Ev.castB nm (Ev.cmp (Ev.neg (Ev.int 1 _)) (Ev.v (V := .list ad (tabI g)) rfl) (CmpOk.inInts (ns := (List.range 7).map g) (-1) (by simp [V.items, tabI])))) (Tru.bool _))) fun _ => ?_)) rfl (by simp) rfl)))
    have hcl : (((List.range 7).map nV).flatMap fun x => if (fun _ => true : V → Bool) x then (((fun _ => (List.range 7).map nV) x : List V).flatMap fun y => if (fun _ _ => true : V → V → Bool) x y then [(fun x y => V.bool (f (nD x) (nD y) && decide (g (nD y) ≤ g (nD x)))) x y] else []) else []) = (List.replicate 49 false).map V.bool := by
      have : ∀ a ∈ List.range 7, ∀ b ∈ List.range 7, (f a b && decide (g b ≤ g a)) = false := fun a ha b hb => hno a b (by simpa using ha) (by simpa using hb)
      have e1 : ∀ x ∈ (List.range 7).map nV, (((List.range 7).map nV).flatMap fun y => [V.bool (f (nD x) (nD y) && decide (g (nD y) ≤ g (nD x)))]) = List.replicate 7 (V.bool false) := fun x hx => by
        obtain ⟨a, ha, rfl⟩ := List.mem_map.mp hx
        have : ∀ y ∈ (List.range 7).map nV, [V.bool (f (nD (nV a)) (nD y) && decide (g (nD y) ≤ g (nD (nV a))))] = [V.bool false] := fun y hy => by
          obtain ⟨b, hb, rfl⟩ := List.mem_map.mp hy
          rw [nDV, nDV, this a ha b hb]
        rw [fm_congr this]
        rfl
      show (((List.range 7).map nV).flatMap fun x => (((List.range 7).map nV).flatMap fun y => [V.bool (f (nD x) (nD y) && decide (g (nD y) ≤ g (nD x)))])) = _
      rw [fm_congr e1]
      rfl
    refine Ev.castB (a := !false) rfl (Ev.not (Ev.castB (a := (List.replicate 49 false).any (· == true)) (by decide) (Ev.cmp (Ev.bool true _) (Ev.castF hcl (Ev.freeze (Ev.comp2 (xs := (List.range 7).map nV) (fun _ => true) (fun _ => (List.range 7).map nV) (fun _ _ => true) (fun x y => .bool (f (nD x) (nD y) && decide (g (nD y) ≤ g (nD x)))) (Ev.rangeY G (n := 7) (Ev.int 7 _) (by omega)) (fun x hx => ?_) (by decide) ?_ (hfree := frOk (by rfl)) (ht0 := tgOk (by rfl)) (ht1 := tgOk (by rfl))))) (CmpOk.inBools (bs := List.replicate 49 false) true rfl))) (Tru.bool _))
    · obtain ⟨a, ha, rfl⟩ := List.mem_map.mp hx
      have ha7 : a < 7 := by simpa using ha
      refine ⟨rfl, _, rfl, Tsts.nil, fun _ => ⟨Ev.rangeY G (n := 7) (Ev.int 7 _) (by omega), fun y hy => ?_⟩⟩
      obtain ⟨b, hb, rfl⟩ := List.mem_map.mp hy
      have hb7 : b < 7 := by simpa using hb
      refine ⟨rfl, _, rfl, Tsts.nil, fun _ U => El.ofEv ?_ rfl (by simp)⟩
      rw [nDV, nDV]
      exact Ev.and (Ev.rdF (f := f) (n := a) (m := b) (Ev.v rfl) (Ev.v rfl) (Ev.v rfl) rfl rfl ha7 hb7) fun _ => Ev.cmp (Ev.subL (n := a) (y := .int (g a)) (Ev.v (V := .list ad (tabI g)) rfl) (Ev.v rfl) rfl rfl (tabI_at ha7) (by rw [tabI_len]; omega)) (Ev.subL (n := b) (y := .int (g b)) (Ev.v (V := .list ad (tabI g)) rfl) (Ev.v rfl) rfl rfl (tabI_at hb7) (by rw [tabI_len]; omega)) (CmpOk.ige _ _)
    · rw [hcl]; simp
end Mine
end
section
open PySem PyProof.Rows PySem.Calls
set_option maxRecDepth 10000
set_option linter.unusedVariables false
namespace Mine
def bit (n a : Nat) : Bool := n / 2 ^ a % 2 == 1
def low (n : Nat) : Nat := ((List.range 7).find? (bit n)).getD 0
def mpB (f : Nat → Nat → Bool) (t : List Nat) (n : Nat) (best b : Nat) : Nat := if (bit n b && !f (low n) b && !f b (low n)) = true then max best (1 + t.getD (n - 2 ^ low n - 2 ^ b) 0) else best
def mpS (f : Nat → Nat → Bool) (t : List Nat) (n : Nat) : Nat := (List.range (6 - low n)).foldl (fun best i => mpB f t n best (low n + 1 + i)) (t.getD (n - 2 ^ low n) 0)
def mpT (f : Nat → Nat → Bool) : Nat → List Nat
  | 0 => [0]
  | n + 1 => mpT f n ++ [mpS f (mpT f n) (n + 1)]
theorem mpT_len (f n) : (mpT f n).length = n + 1 := by induction n with | zero => rfl | succ n ih => simp [mpT, ih]
theorem low_ok : ∀ n, n < 128 → 1 ≤ n → low n < 7 ∧ bit n (low n) = true ∧ (∀ a, a < low n → bit n a = false) ∧ 2 ^ low n ≤ n := by decide +kernel
theorem bit_sub : ∀ n, n < 128 → 1 ≤ n → ∀ b, b < 7 → low n < b → bit n b = true → 2 ^ b + 2 ^ low n ≤ n := by decide +kernel
theorem sig17 : Sig (fdef 17) ["before"] := Sig.of (by decide +kernel) fun pm code doc vs h => by
  match vs, h with
  | [a], _ => rfl
theorem pow2i (a : Nat) : (2 : Int) ^ (a : Int).toNat = ((2 ^ a : Nat) : Int) := by simp
theorem bit_int (n a : Nat) : ((n : Int) / ((2 ^ a : Nat) : Int) % 2 == 1) = bit n a := by
  unfold bit
  have : (n : Int) / ((2 ^ a : Nat) : Int) % 2 = ((n / 2 ^ a % 2 : Nat) : Int) := by push_cast; rfl
  rw [this, Bool.eq_iff_iff]
  simp only [beq_iff_eq]
  omega
theorem bit_int0 (n a : Nat) : ((n : Int) / ((2 ^ a : Nat) : Int) % 2 == 0) = !bit n a := by
  unfold bit
  have : (n : Int) / ((2 ^ a : Nat) : Int) % 2 = ((n / 2 ^ a % 2 : Nat) : Int) := by push_cast; rfl
  rw [this, Bool.eq_iff_iff]
  simp only [beq_iff_eq, Bool.not_eq_true', beq_eq_false_iff_ne, ne_eq]
  omega
section
variable {c : Cx} {k : Nat} {sc : Scope} {ρ : Rho} {pos : Pos}
theorem Ev.pow2 {e : Expr} {kk : Nat} {p : Pos} {a : Nat} (he : Ev c k sc ρ e (Is c (.int (a : Nat)))) (ha : a ≤ 20) : Ev c k sc ρ (.BinOp (.Constant (.int 2) kk p) .Pow e pos) (Is c (.int ((2 ^ a : Nat) : Int))) :=
  Ev.cast (pow2i a) (Ev.iop (Ev.int 2 _) he (IntOp.pow (by omega) (by omega) (by decide)))
end
theorem w17 {c : Cx} (G : Ground c) (f : Nat → Nat → Bool) : PureFn c 0 (fdef 17) [.fl (rowsV (tab f))] (fun y => y = .int ((mpT f 127).getD 127 0 : Nat)) := by
  refine PureFn.of (ps := ["before"]) G.ok sig17 rfl (G.fn 17 (by simp)) (by simp [foot]) (P := fun fl ρ' => fl = .ret (.int ((mpT f 127).getD 127 0 : Nat))) ?_ (fun fl ρ' h2 => by rw [h2]; rfl)
  refine Wp.seq (WS.assignNew (Ev.mulList (n := 128) (x := .int 0) (Ev.list (EvA.cons (Ev.int 0 _) EvA.nil) (by simp [foot]) (by simp)) (Ev.int 128 _) rfl (by omega)) (.inl rfl) (fun ad => wn ?_))
  let L : Nat → List V := fun i => (mpT f i ++ List.replicate (127 - i) 0).map nV
  have Llen : ∀ i, i ≤ 127 → (L i).length = 128 := fun i hi => by simp [L, mpT_len]; omega
  have Lat : ∀ i m, i ≤ 127 → m ≤ i → (L i)[m]? = some (.int ((mpT f i).getD m 0 : Nat)) := fun i m hi hm => by
    simp only [L]
    rw [List.getElem?_map, List.getElem?_append_left (by rw [mpT_len]; omega)]
    have : m < (mpT f i).length := by rw [mpT_len]; omega
    simp [this, nV]
  have Lset : ∀ i, i < 127 → (L i).set (i + 1) (.int (mpS f (mpT f i) (i + 1) : Nat)) = L (i + 1) := fun i hi => by
    simp only [L]
    have e : 127 - i = (127 - (i + 1)) + 1 := by omega
    rw [e, List.replicate_succ, mpT]
    rw [show V.int (mpS f (mpT f i) (i + 1) : Nat) = nV (mpS f (mpT f i) (i + 1)) from rfl, ← List.map_set, List.set_append, if_neg (by rw [mpT_len]; omega)]
    simp [mpT_len]
  rw [show List.replicate 128 (V.int 0) = L 0 by rfl]
  clear_value L
  refine Wp.seq (WS.for_ (xs := upto 1 128) (fun i ρ' => Sub [("most", .list ad (L i)), ("before", .fl (rowsV (tab f)))] ρ') (Ev.yields_rng (Ev.range2 G (Ev.int 1 _) (Ev.int 128 _)) (rangeSmall _ _ (by omega) (by omega) (by omega) (by omega))) (stT (by rfl)) (.cons rfl (.cons rfl .nil)) ?_ ?_)
  · rintro i x ρ' hx hsub
    obtain ⟨hi, rfl⟩ := upto_at hx
    have hi' : i < 127 := by omega
    obtain ⟨q1, q2, q3, q4⟩ := low_ok (i + 1) (by omega) (by omega)
    have hbs := bit_sub (i + 1) (by omega) (by omega)
    refine ⟨rfl, _, rfl, Wp.sub (ρ' := [("left", .int ((i + 1 : Nat) : Int)), ("most", .list ad (L i)), ("before", .fl (rowsV (tab f)))]) (.cons (by rw [show ((i + 1 : Nat) : Int) = 1 + (i : Nat) by omega]; rfl) (.cons (hsub _ _ rfl) (.cons (hsub _ _ rfl) .nil))) ?_⟩
    have hS : mpS f (mpT f i) (i + 1) = mpS f (mpT f i) (i + 1) := rfl
    conv at hS => lhs; unfold mpS
    generalize hn : i + 1 = n at *
    generalize hlo : low n = lo at *
    refine Wp.seq (WS.assign (V := .int ((0 : Nat) : Int)) (Ev.int 0 _) rfl (.inl rfl) (wn ?_))
    refine Wp.seq (WS.while_ (fun m ρ' => ∃ a, m = lo - a ∧ a ≤ lo ∧ Sub [("a", .int (a : Nat)), ("left", .int (n : Int)), ("most", .list ad (L i)), ("before", .fl (rowsV (tab f)))] ρ') lo ⟨0, rfl, by omega, .cons rfl (.cons rfl (.cons rfl (.cons rfl .nil)))⟩ ?_)
    rintro m ρ' ⟨a, rfl, ha, hsub⟩
    refine ⟨!bit n a, Tst.cast (bit_int0 n a) (Tst.cmp (Ev.iop (Ev.iop (Ev.v (hsub _ _ rfl)) (Ev.pow2 (Ev.v (hsub _ _ rfl)) (by omega)) (IntOp.div _ _ (by have := Nat.two_pow_pos a; omega) (by have := Nat.pow_le_pow_right (n := 2) (by omega) (show a ≤ 7 by omega); omega))) (Ev.int 2 _) (IntOp.mod _ _ (by decide))) (Ev.int 0 _) (CmpOk.ieq _ _)), fun hb => Wp.sub hsub ?_, fun hb => wn (Wp.sub hsub ?_)⟩
    · have hne : a ≠ lo := fun e => by rw [e, q2] at hb; cases hb
      refine Wp.seq (WS.assign (V := .int ((a + 1 : Nat) : Int)) (Ev.cast (by push_cast; rfl) (Ev.iop (Ev.v rfl) (Ev.int 1 _) (IntOp.add _ _))) rfl (.inl rfl) (wn (Wp.nil ?_)))
      exact ⟨lo - (a + 1), by omega, a + 1, rfl, by omega, .cons rfl (.cons rfl (.cons rfl (.cons rfl .nil)))⟩
    · have hal : a = lo := by
        rcases Nat.lt_or_ge a lo with h | h
        · rw [q3 a h] at hb; cases hb
        · omega
      subst hal
      have hp1 : 2 ^ a ≤ n := q4
      refine Wp.seq (WS.assign (V := .int ((mpT f i).getD (n - 2 ^ a) 0 : Nat)) (Ev.subL (n := n - 2 ^ a) (l := L i) (Ev.v rfl) (Ev.iop (Ev.v rfl) (Ev.pow2 (Ev.v rfl) (by omega)) (IntOp.sub _ _)) rfl (by omega) (Lat i (n - 2 ^ a) (by omega) (by have := Nat.two_pow_pos a; omega)) (by rw [Llen i (by omega)]; omega)) rfl (.inl rfl) (wn ?_))
      refine Wp.seq (WS.for_ (xs := upto ((a : Int) + 1) 7) (fun j ρ' => Sub [("best", .int (((List.range j).foldl (fun best i' => mpB f (mpT f i) n best (low n + 1 + i')) ((mpT f i).getD (n - 2 ^ low n) 0) : Nat) : Int)), ("a", .int (a : Nat)), ("left", .int (n : Int)), ("most", .list ad (L i)), ("before", .fl (rowsV (tab f)))] ρ')
        (Ev.yields_rng (Ev.range2 G (Ev.iop (Ev.v rfl) (Ev.int 1 _) (IntOp.add _ _)) (Ev.int 7 _)) (rangeSmall _ _ (by omega) (by omega) (by omega) (by omega))) (stT (by rfl)) (.cons (by rw [hlo]; rfl) (.cons rfl (.cons rfl (.cons rfl (.cons rfl .nil))))) ?_ ?_)
      · rintro j x ρ' hx hsub
        obtain ⟨hj, rfl⟩ := upto_at hx
        generalize hbst : (List.range j).foldl (fun best i' => mpB f (mpT f i) n best (low n + 1 + i')) ((mpT f i).getD (n - 2 ^ low n) 0) = best at hsub
        have hb7 : a + 1 + j < 7 := by omega
        have hnext : (List.range (j + 1)).foldl (fun best i' => mpB f (mpT f i) n best (low n + 1 + i')) ((mpT f i).getD (n - 2 ^ low n) 0) = mpB f (mpT f i) n best (a + 1 + j) := by
          rw [List.range_succ, List.foldl_append, hbst, List.foldl_cons, List.foldl_nil, hlo]
        generalize hb : a + 1 + j = b at *
        refine ⟨rfl, _, rfl, Wp.sub (ρ' := [("b", .int (b : Nat)), ("best", .int (best : Nat)), ("a", .int (a : Nat)), ("left", .int (n : Int)), ("most", .list ad (L i)), ("before", .fl (rowsV (tab f)))]) (.cons (by rw [show ((b : Nat) : Int) = (a : Int) + 1 + (j : Nat) by omega]; rfl) (.cons (hsub _ _ rfl) (.cons (hsub _ _ rfl) (.cons (hsub _ _ rfl) (.cons (hsub _ _ rfl) (.cons (hsub _ _ rfl) .nil)))))) ?_⟩
        refine Wp.seq (WS.if_ (b := bit n b && !f a b && !f b a) (Tst.and3 (Tst.cast (bit_int n b) (Tst.cmp (Ev.iop (Ev.iop (Ev.v rfl) (Ev.pow2 (Ev.v rfl) (by omega)) (IntOp.div _ _ (by have := Nat.two_pow_pos b; omega) (by have := Nat.pow_le_pow_right (n := 2) (by omega) (show b ≤ 7 by omega); omega))) (Ev.int 2 _) (IntOp.mod _ _ (by decide))) (Ev.int 1 _) (CmpOk.ieq _ _)))
          (fun _ => Tst.not (Tst.val (Ev.rdF (f := f) (n := a) (m := b) (Ev.v rfl) (Ev.v rfl) (Ev.v rfl) rfl rfl q1 hb7) (Tru.bool _))) (fun _ _ => Tst.not (Tst.val (Ev.rdF (f := f) (n := b) (m := a) (Ev.v rfl) (Ev.v rfl) (Ev.v rfl) rfl rfl hb7 q1) (Tru.bool _)))) (fun h => ?_) (fun h => ?_))
        · have hbb : bit n b = true := by
            simp only [Bool.and_eq_true] at h; exact h.1.1
          have hle := hbs b hb7 (by omega) hbb
          have hpa := Nat.two_pow_pos a
          have hpb := Nat.two_pow_pos b
          refine Wp.seq (WS.assign (V := .int ((max best (1 + (mpT f i).getD (n - 2 ^ a - 2 ^ b) 0) : Nat) : Int)) (Ev.cast (by split <;> omega) (Ev.max2 G (Ev.v rfl) (Ev.iop (Ev.int 1 _) (Ev.subL (n := n - 2 ^ a - 2 ^ b) (l := L i) (y := .int ((mpT f i).getD (n - 2 ^ a - 2 ^ b) 0 : Nat)) (Ev.v rfl) (Ev.iop (Ev.iop (Ev.v rfl) (Ev.pow2 (Ev.v rfl) (by omega)) (IntOp.sub _ _)) (Ev.pow2 (Ev.v rfl) (by omega)) (IntOp.sub _ _)) rfl (by omega) (Lat i _ (by omega) (by omega)) (by rw [Llen i (by omega)]; omega)) (IntOp.add _ _)))) rfl (.inl rfl) (wn (Wp.nil (wn (Wp.nil ?_)))))
          rw [hnext]
          refine .cons ?_ (.cons rfl (.cons rfl (.cons rfl (.cons rfl .nil))))
          unfold mpB
          rw [hlo, if_pos h]; rfl
        · refine Wp.nil (wn (Wp.nil ?_))
          rw [hnext]
          refine .cons ?_ (.cons rfl (.cons rfl (.cons rfl (.cons rfl .nil))))
          unfold mpB
          rw [hlo, if_neg (by rw [h]; simp)]; rfl
      · rintro ρ' hsub
        have hl : (upto ((a : Int) + 1) 7).length = 6 - low n := by rw [upto_len, hlo]; omega
        rw [hl, show (List.range (6 - low n)).foldl (fun best i' => mpB f (mpT f i) n best (low n + 1 + i')) ((mpT f i).getD (n - 2 ^ low n) 0) = mpS f (mpT f i) n from rfl] at hsub
        refine wn (Wp.sub hsub (Wp.seq (WS.setL (n := n) (a := ad) (l := L i) rfl (.inl rfl) (Ev.v rfl) (Ev.v rfl) rfl (by rw [Llen i (by omega)]; omega) (by rw [Llen i (by omega)]; omega) rfl (by simp) (wn (Wp.nil ?_)))))
        have := Lset i hi'
        rw [hn] at this
        rw [this, ← hn]
        exact .cons rfl (.cons rfl .nil)
  · rintro ρ' hsub
    have hl : (upto 1 128).length = 127 := by rw [upto_len]; rfl
    rw [hl] at hsub
    refine wn (Wp.sub hsub (Wp.seq (WS.ret (Ev.subL (n := 127) (l := L 127) (Ev.v rfl) (Ev.int 127 _) rfl rfl (Lat 127 127 (by omega) (by omega)) (by rw [Llen 127 (by omega)]; omega)) rfl (by simp) rfl)))
end Mine
end
section
open PySem PyProof.Rows PySem.Calls
set_option maxRecDepth 10000
set_option linter.unusedVariables false
namespace Mine
theorem pigeon : ∀ (n : Nat) (l : List Nat), l.Nodup → (∀ x ∈ l, x < n) → l.length ≤ n
  | 0, l, _, h => by
    cases l with
    | nil => simp
    | cons x r => exact absurd (h x (by simp)) (by omega)
  | n + 1, l, hd, h => by
    have h1 := pigeon n (l.erase n) (hd.erase n) fun x hx => by
      have := (hd.mem_erase_iff).mp hx
      have := h x this.2
      omega
    have := List.length_erase (a := n) (l := l)
    split at this <;> omega
def need (f : Nat → Nat → Bool) (v : Nat) : Nat := (((List.range 7).filter fun a => f a v).map fun a => 2 ^ a).sum
def rdy (f : Nat → Nat → Bool) (d v : Nat) : Bool := !bit d v && (d &&& need f v) == need f v
/-- what may be done after one hour more -/
def Nx (f : Nat → Nat → Bool) (d n : Nat) : Prop := ∃ a, a < 7 ∧ rdy f d a = true ∧ (n = d + 2 ^ a ∨ ∃ b, b < 7 ∧ rdy f d b = true ∧ a < b ∧ n = d + 2 ^ a + 2 ^ b)
def Lev (f : Nat → Nat → Bool) : Nat → Nat → Prop
  | 0, n => n = 0
  | t + 1, n => ∃ d, Lev f t d ∧ Nx f d n
theorem bit_add : ∀ d, d < 128 → ∀ a, a < 7 → bit d a = false → d + 2 ^ a < 128 := by decide +kernel
theorem bit_add2' : ∀ d, d < 128 → ∀ a, a < 7 → ∀ b, b < 7 → (a < b ∧ bit d a = false ∧ bit d b = false) → d + 2 ^ a + 2 ^ b < 128 := by decide +kernel
theorem bit_add2 (d : Nat) (hd : d < 128) (a : Nat) (ha : a < 7) (b : Nat) (hb : b < 7) (h1 : a < b) (h2 : bit d a = false) (h3 : bit d b = false) : d + 2 ^ a + 2 ^ b < 128 := bit_add2' d hd a ha b hb ⟨h1, h2, h3⟩
theorem rdy_bit {f d a} (h : rdy f d a = true) : bit d a = false := by unfold rdy at h; simp at h; exact h.1
theorem Nx.lt {f d n} (h : Nx f d n) (hd : d < 128) : n < 128 := by
  obtain ⟨a, ha, hr, h | ⟨b, hb, hr', hab, h⟩⟩ := h
  · rw [h]; exact bit_add d hd a ha (rdy_bit hr)
  · rw [h]; exact bit_add2 d hd a ha b hb hab (rdy_bit hr) (rdy_bit hr')
def addN (ks : List Nat) (n : Nat) : List Nat := if n ∈ ks then ks else ks ++ [n]
theorem addK_map (ks : List Nat) (n : Nat) : addK (ks.map fun (x : Nat) => (x : Int)) (n : Int) = (addN ks n).map fun (x : Nat) => (x : Int) := by
  unfold addK addN
  have : (n : Int) ∈ ks.map (fun (x : Nat) => (x : Int)) ↔ n ∈ ks := by
    rw [List.mem_map]
    constructor
    · rintro ⟨a, h1, h2⟩
      have : a = n := by omega
      exact this ▸ h1
    · intro h; exact ⟨n, h, rfl⟩
  by_cases h : n ∈ ks
  · rw [if_pos (this.mpr h), if_pos h]
  · rw [if_neg (fun q => h (this.mp q)), if_neg h]; simp
theorem addN_mem {ks : List Nat} {n x : Nat} : x ∈ addN ks n ↔ x ∈ ks ∨ x = n := by
  unfold addN
  split
  · rename_i h
    exact ⟨.inl, fun q => q.elim id fun e => e ▸ h⟩
  · simp
theorem addN_nd {ks : List Nat} {n : Nat} (h : ks.Nodup) : (addN ks n).Nodup := by
  unfold addN
  split
  · exact h
  · rename_i hn
    rw [List.nodup_append]
    exact ⟨h, by simp, fun a ha b hb => by simp at hb; subst hb; exact fun e => hn (e ▸ ha)⟩
def kI (ks : List Nat) : List Int := ks.map fun (x : Nat) => (x : Int)
theorem swap_not {sc : Scope} {elt : Expr} {gens : List Comprehension} {scope : Scope} {p0 : Pos} {x : Str} {p : Pos} {line : Nat} {env : Env} (hE : EnvOk sc env) (h : swapB sc elt gens scope p0 x p = false) :
    swapsWith (.ListComp elt gens scope p0) (some (.Name x p)) line env = pure false := by
  have hb : env.blockKind = .function := by unfold Env.blockKind; rw [hE.scope, hE.kind]; rfl
  have hk : env.kindOf x = sc.names.lookup x := by unfold Env.kindOf; rw [hE.scope]
  unfold swapB at h
  simp only [swapsWith, hb, hk]
  rw [show ((ScopeKind.function == ScopeKind.function) = true) from rfl, Bool.true_and, h]
/-- x = [..], x a cell -/
theorem WS.assignCell {c : Cx} {k : Nat} {sc : Scope} {ρ : Rho} {P : Fl → Rho → Prop} {pos : Pos} {x : Str} {p p0 : Pos} {elt : Expr} {gens : List Comprehension} {scope : Scope} {V : Mine.V} (h : Ev c k sc ρ (.ListComp elt gens scope p0) (Is c V)) (hf : foot V = []) (hx : Storable sc x) (hp : P .nrm ((x, V) :: ρ))
    (hsw : swapB sc elt gens scope p0 x p = false := by rfl) : WS c k sc (.Assign [.Name x p] (.ListComp elt gens scope p0) pos) ρ P := fun fx env A s Z hE hA hs => by
  refine wpAny_Assign_Name (wpAny_mono (h env A s Z hE hA hs.rd) (fun v s1 ⟨Z1, u, r⟩ => ?_) fun _ _ x => x) (swap_not hE hsw)
  exact St.store hE hx (hs.up u) r (fun a ha => by rw [hf] at ha; cases ha) (fun y W _ _ a ha => by rw [hf] at ha; cases ha) fun h' tk st _ => ⟨Z1, _, .nrm, st, .nrm, hp⟩
theorem WS.assignCellN {c : Cx} {k : Nat} {sc : Scope} {ρ : Rho} {P : Fl → Rho → Prop} {pos : Pos} {x : Str} {p p0 : Pos} {elt : Expr} {gens : List Comprehension} {scope : Scope} {l : List V} (h : Ev c k sc ρ (.ListComp elt gens scope p0) (New c l)) (hx : Storable sc x) (hp : ∀ a, P .nrm ((x, .list a l) :: ρ))
    (hsw : swapB sc elt gens scope p0 x p = false := by rfl) : WS c k sc (.Assign [.Name x p] (.ListComp elt gens scope p0) pos) ρ P := fun fx env A s Z hE hA hs => by
  refine wpAny_Assign_Name (wpAny_mono (h env A s Z hE hA hs.rd) (fun v s1 ⟨Z1, u, a, vs, hv, hn, hz, hpl, al⟩ => ?_) fun _ _ x => x) (swap_not hE hsw)
  subst hv
  have hs1 := hs.up u
  refine St.store hE hx hs1 (V := .list a l) (.list hpl hz al) (fun b hb => ?_) (fun y W _ hy b hb hb' => ?_) fun h' tk st _ => ⟨Z1, _, .nrm, st, .nrm, hp a⟩
  · simp only [foot, List.mem_singleton] at hb; subst hb
    refine ⟨hs.fresh hn, fun q => ?_⟩
    obtain ⟨o, e⟩ := hs.locA _ q; rw [hn] at e; cases e
  · simp only [foot, List.mem_singleton] at hb; subst hb
    obtain ⟨⟨o, e⟩, _⟩ := hs.footIn hy hb'; rw [hn] at e; cases e
theorem sig16 : Sig (fdef 16) ["before"] := Sig.of (by decide +kernel) fun pm code doc vs h => by
  match vs, h with
  | [a], _ => rfl
theorem band_nat (x y : Nat) : Builtin.bitAnd (x : Int) (y : Int) = ((x &&& y : Nat) : Int) := by
  unfold Builtin.bitAnd
  simp

theorem w16b {c : Cx} (G : Ground c) (f : Nat → Nat → Bool) {T : Nat} (hT : Lev f T 127) : Wp c 0 (fdef 16).scope ((fdef 16).body.drop 3) [("hours", .int ((0 : Nat) : Int)), ("level", .fd [0]), ("needs", .fl ((List.range 7).map fun v => nV (need f v)))]
    (fun fl ρ' => ∃ t : Nat, fl = .ret (.int (t : Int)) ∧ Lev f t 127 ∧ ∀ t', t' < t → ¬ Lev f t' 127) := by
  refine Wp.seq (WS.while_ (fun m ρ' => ∃ (t : Nat) (ks : List Nat), m = T - t ∧ t ≤ T ∧ Sub [("hours", .int (t : Nat)), ("level", .fd (kI ks)), ("needs", .fl ((List.range 7).map fun v => nV (need f v)))] ρ' ∧ ks.Nodup ∧ (∀ n ∈ ks, n < 128) ∧ (∀ n, n ∈ ks ↔ Lev f t n) ∧ ∀ t', t' < t → ¬ Lev f t' 127) T
    ⟨0, [0], rfl, by omega, .cons rfl (.cons rfl (.cons rfl .nil)), by simp, by simp, by simp [Lev], fun t' h => by omega⟩ ?_)
  rintro m ρ' ⟨t, ks, rfl, htT, hsub, hnd, hlt, hks, hno⟩
  have hkl := pigeon 128 ks hnd hlt
  refine ⟨_, Tst.cmp (Ev.int 127 _) (Ev.v (hsub _ _ rfl)) (CmpOk.notInFD 127), fun hb => Wp.sub hsub ?_, fun hb => wn (Wp.sub hsub (Wp.seq (WS.ret (Ev.v rfl) rfl (by simp) ⟨t, rfl, ?_, hno⟩)))⟩
  · have h127 : ¬ Lev f t 127 := fun h => by
      have := (hks 127).mpr h
      have : (127 : Int) ∈ kI ks := List.mem_map.mpr ⟨127, this, rfl⟩
      rw [Bool.not_eq_true'] at hb
      have h2 := List.contains_iff_mem.mpr this
      rw [hb] at h2; cases h2
    have htT' : t < T := by
      rcases Nat.lt_or_ge t T with h | h
      · exact h
      · have e : t = T := by omega
        rw [e] at h127; exact absurd hT h127
    refine Wp.seq (WS.assignNewD (Ev.dict0 G.ok) (.inl rfl) (fun ad => wn ?_))
    refine Wp.seq (WS.for_ (xs := (kI ks).map V.int) (fun i ρ' => ∃ fs : List Nat, Sub [("fresh", .dict ad (kI fs)), ("hours", .int (t : Nat)), ("level", .fd (kI ks)), ("needs", .fl ((List.range 7).map fun v => nV (need f v)))] ρ' ∧ fs.Nodup ∧ (∀ n ∈ fs, n < 128) ∧ ∀ n, n ∈ fs ↔ ∃ d ∈ ks.take i, Nx f d n)
      (Ev.yields_fd (Ev.v rfl)) (stT (by rfl)) ⟨[], .cons rfl (.cons rfl (.cons rfl (.cons rfl .nil))), by simp, by simp, by simp⟩ ?_ ?_)
    · rintro i x ρ' hx ⟨fs, hsub, hfnd, hflt, hfs⟩
      have hi : i < ks.length := by have := (List.getElem?_eq_some_iff.mp hx).1; simpa [kI] using this
      generalize hd : ks[i] = d
      have hxd : x = .int (d : Nat) := by
        rw [List.getElem?_map, kI, List.getElem?_map, List.getElem?_eq_getElem hi, hd] at hx
        simpa using hx.symm
      subst hxd
      have hd128 : d < 128 := hd ▸ hlt _ (List.getElem_mem hi)
      have htk : ks.take (i + 1) = ks.take i ++ [d] := by rw [List.take_add_one, List.getElem?_eq_getElem hi, hd]; rfl
      refine ⟨rfl, _, rfl, Wp.sub (ρ' := [("done", .int (d : Nat)), ("fresh", .dict ad (kI fs)), ("hours", .int (t : Nat)), ("level", .fd (kI ks)), ("needs", .fl ((List.range 7).map fun v => nV (need f v)))]) (.cons rfl (.cons (hsub _ _ rfl) (.cons (hsub _ _ rfl) (.cons (hsub _ _ rfl) (.cons (hsub _ _ rfl) .nil))))) ?_⟩
      refine Wp.seq (WS.compM nV nD nDV (l := List.range 7) (rdy f d) nV (Ev.rangeY G (n := 7) (Ev.int 7 _) (by omega)) (fun v hv => ?_) (by simp) (fun ar => wn (Wp.freezeL (x := "ready") rfl ?_)))
      · have hv7 : v < 7 := by simpa using hv
        refine ⟨rfl, _, rfl, Tsts.one (Tst.and (Tst.cast (bit_int0 d v) (Tst.cmp (Ev.iop (Ev.iop (Ev.v rfl) (Ev.pow2 (Ev.v rfl) (by omega)) (IntOp.div _ _ (by have := Nat.two_pow_pos v; omega) (by have := Nat.pow_le_pow_right (n := 2) (by omega) (show v ≤ 7 by omega); omega))) (Ev.int 2 _) (IntOp.mod _ _ (by decide))) (Ev.int 0 _) (CmpOk.ieq _ _)))
          (fun _ => Tst.cast (a := (Builtin.bitAnd (d : Int) (need f v : Int) == (need f v : Int))) (by rw [band_nat, Bool.eq_iff_iff]; simp only [beq_iff_eq]; omega) (Tst.cmp (Ev.iop (Ev.v rfl) (Ev.subL (n := v) (y := .int (need f v : Nat)) (Ev.v (V := .fl ((List.range 7).map fun v => nV (need f v))) rfl) (Ev.v rfl) rfl rfl (by simp [hv7, nV]) (by simp)) (IntOp.band _ _)) (Ev.subL (n := v) (y := .int (need f v : Nat)) (Ev.v (V := .fl ((List.range 7).map fun v => nV (need f v))) rfl) (Ev.v rfl) rfl rfl (by simp [hv7, nV]) (by simp)) (CmpOk.ieq _ _)))), fun _ U => El.ofEv (Ev.v rfl rfl (by simp [nV])) rfl (by simp [nV])⟩
      generalize hR : (List.range 7).filter (rdy f d) = R
      have hRm : ∀ a, a ∈ R ↔ a < 7 ∧ rdy f d a = true := fun a => by rw [← hR, List.mem_filter, List.mem_range]
      have hp7 : ∀ a, a < 7 → 2 ^ a ≤ 64 := fun a ha => Nat.pow_le_pow_right (n := 2) (by omega) (show a ≤ 6 by omega)
      refine Wp.seq (WS.for_ (xs := R.map nV) (fun i' ρ' => ∃ fs' : List Nat, Sub [("done", .int (d : Nat)), ("ready", .fl (R.map nV)), ("fresh", .dict ad (kI fs')), ("hours", .int (t : Nat)), ("level", .fd (kI ks)), ("needs", .fl ((List.range 7).map fun v => nV (need f v)))] ρ' ∧ fs'.Nodup ∧ (∀ n ∈ fs', n < 128) ∧
          ∀ n, n ∈ fs' ↔ n ∈ fs ∨ ∃ a ∈ R.take i', n = d + 2 ^ a ∨ ∃ b ∈ R, a < b ∧ n = d + 2 ^ a + 2 ^ b)
        (Ev.yields_fl (Ev.v rfl)) (stT (by rfl)) ⟨fs, .cons rfl (.cons rfl (.cons rfl (.cons rfl (.cons rfl (.cons rfl .nil))))), hfnd, hflt, by simp⟩ ?_ ?_)
      · rintro i' x ρ' hx ⟨fs', hsub, hfnd', hflt', hfs'⟩
        have hi' : i' < R.length := by have := (List.getElem?_eq_some_iff.mp hx).1; simpa using this
        generalize ha : R[i'] = a
        have hxa : x = .int (a : Nat) := by
          rw [List.getElem?_map, List.getElem?_eq_getElem hi', ha] at hx
          simpa [nV] using hx.symm
        subst hxa
        obtain ⟨ha7, har⟩ := (hRm a).mp (ha ▸ List.getElem_mem hi')
        have htk' : R.take (i' + 1) = R.take i' ++ [a] := by rw [List.take_add_one, List.getElem?_eq_getElem hi', ha]; rfl
        have hk1 : d + 2 ^ a < 128 := bit_add d hd128 a ha7 (rdy_bit har)
        refine ⟨rfl, _, rfl, Wp.sub (ρ' := [("a", .int (a : Nat)), ("done", .int (d : Nat)), ("ready", .fl (R.map nV)), ("fresh", .dict ad (kI fs')), ("hours", .int (t : Nat)), ("level", .fd (kI ks)), ("needs", .fl ((List.range 7).map fun v => nV (need f v)))]) (.cons rfl (.cons (hsub _ _ rfl) (.cons (hsub _ _ rfl) (.cons (hsub _ _ rfl) (.cons (hsub _ _ rfl) (.cons (hsub _ _ rfl) (.cons (hsub _ _ rfl) .nil))))))) ?_⟩
        refine Wp.seq (WS.setD (a := ad) (ks := kI fs') (j := ((d + 2 ^ a : Nat) : Int)) rfl (.inl rfl) (Ev.int 0 _) (Ev.cast (by push_cast; rfl) (Ev.iop (Ev.v rfl) (Ev.pow2 (Ev.v rfl) (by omega)) (IntOp.add _ _))) (by have := pigeon 128 fs' hfnd' hflt'; simp [kI]; omega) (wn ?_))
        rw [show addK (kI fs') ((d + 2 ^ a : Nat) : Int) = kI (addN fs' (d + 2 ^ a)) from addK_map _ _]
        generalize hg1 : addN fs' (d + 2 ^ a) = g1
        have h1nd : g1.Nodup := hg1 ▸ addN_nd hfnd'
        have h1m : ∀ n, n ∈ g1 ↔ n ∈ fs' ∨ n = d + 2 ^ a := fun n => by rw [← hg1]; exact addN_mem
        have h1lt : ∀ n ∈ g1, n < 128 := fun n hn => ((h1m n).mp hn).elim (hflt' n) fun e => e ▸ hk1
        refine Wp.seq (WS.for_ (xs := R.map nV) (fun j ρ' => ∃ g : List Nat, Sub [("a", .int (a : Nat)), ("done", .int (d : Nat)), ("ready", .fl (R.map nV)), ("fresh", .dict ad (kI g)), ("hours", .int (t : Nat)), ("level", .fd (kI ks)), ("needs", .fl ((List.range 7).map fun v => nV (need f v)))] ρ' ∧ g.Nodup ∧ (∀ n ∈ g, n < 128) ∧
            ∀ n, n ∈ g ↔ n ∈ g1 ∨ ∃ b ∈ R.take j, a < b ∧ n = d + 2 ^ a + 2 ^ b)
          (Ev.yields_fl (Ev.v rfl)) (stT (by rfl)) ⟨g1, .cons rfl (.cons rfl (.cons rfl (.cons rfl (.cons rfl (.cons rfl (.cons rfl .nil)))))), h1nd, h1lt, by simp⟩ ?_ ?_)
        · rintro j x ρ' hx ⟨g, hsub, hgnd, hglt, hgm⟩
          have hj : j < R.length := by have := (List.getElem?_eq_some_iff.mp hx).1; simpa using this
          generalize hb : R[j] = b
          have hxb : x = .int (b : Nat) := by
            rw [List.getElem?_map, List.getElem?_eq_getElem hj, hb] at hx
            simpa [nV] using hx.symm
          subst hxb
          obtain ⟨hb7, hbr⟩ := (hRm b).mp (hb ▸ List.getElem_mem hj)
          have htj : R.take (j + 1) = R.take j ++ [b] := by rw [List.take_add_one, List.getElem?_eq_getElem hj, hb]; rfl
          refine ⟨rfl, _, rfl, Wp.sub (ρ' := [("b", .int (b : Nat)), ("a", .int (a : Nat)), ("done", .int (d : Nat)), ("ready", .fl (R.map nV)), ("fresh", .dict ad (kI g)), ("hours", .int (t : Nat)), ("level", .fd (kI ks)), ("needs", .fl ((List.range 7).map fun v => nV (need f v)))]) (.cons rfl (.cons (hsub _ _ rfl) (.cons (hsub _ _ rfl) (.cons (hsub _ _ rfl) (.cons (hsub _ _ rfl) (.cons (hsub _ _ rfl) (.cons (hsub _ _ rfl) (.cons (hsub _ _ rfl) .nil)))))))) ?_⟩
          refine Wp.seq (WS.if_ (Tst.cmp (Ev.v rfl) (Ev.v rfl) (CmpOk.ilt _ _)) (fun h => ?_) (fun h => Wp.nil (wn (Wp.nil ⟨g, .cons rfl (.cons rfl (.cons rfl (.cons rfl (.cons rfl (.cons rfl (.cons rfl .nil)))))), hgnd, hglt, fun n => ?_⟩))))
          · have hab : a < b := by have := of_decide_eq_true h; omega
            have hk2 : d + 2 ^ a + 2 ^ b < 128 := bit_add2 d hd128 a ha7 b hb7 hab (rdy_bit har) (rdy_bit hbr)
            refine Wp.seq (WS.setD (a := ad) (ks := kI g) (j := ((d + 2 ^ a + 2 ^ b : Nat) : Int)) rfl (.inl rfl) (Ev.int 0 _) (Ev.cast (by push_cast; rfl) (Ev.iop (Ev.iop (Ev.v rfl) (Ev.pow2 (Ev.v rfl) (by omega)) (IntOp.add _ _)) (Ev.pow2 (Ev.v rfl) (by omega)) (IntOp.add _ _))) (by have := pigeon 128 g hgnd hglt; simp [kI]; omega) (wn (Wp.nil (wn (Wp.nil ?_)))))
            rw [show addK (kI g) ((d + 2 ^ a + 2 ^ b : Nat) : Int) = kI (addN g (d + 2 ^ a + 2 ^ b)) from addK_map _ _]
            refine ⟨addN g (d + 2 ^ a + 2 ^ b), .cons rfl (.cons rfl (.cons rfl (.cons rfl (.cons rfl (.cons rfl (.cons rfl .nil)))))), addN_nd hgnd, fun n hn => (addN_mem.mp hn).elim (hglt n) fun e => e ▸ hk2, fun n => ?_⟩
            rw [addN_mem, hgm, htj]
            simp only [List.mem_append, List.mem_singleton]
            constructor
            · rintro ((h | ⟨b', h1, h2, h3⟩) | h)
              · exact .inl h
              · exact .inr ⟨b', .inl h1, h2, h3⟩
              · exact .inr ⟨b, .inr rfl, hab, h⟩
            · rintro (h | ⟨b', h1 | h1, h2, h3⟩)
              · exact .inl (.inl h)
              · exact .inl (.inr ⟨b', h1, h2, h3⟩)
              · exact .inr (h1 ▸ h3)
          · have hab : ¬ a < b := by have := of_decide_eq_false h; omega
            rw [hgm, htj]
            simp only [List.mem_append, List.mem_singleton]
            constructor
            · rintro (h | ⟨b', h1, h2, h3⟩)
              · exact .inl h
              · exact .inr ⟨b', .inl h1, h2, h3⟩
            · rintro (h | ⟨b', h1 | h1, h2, h3⟩)
              · exact .inl h
              · exact .inr ⟨b', h1, h2, h3⟩
              · exact absurd (h1 ▸ h2) hab
        · rintro ρ' ⟨g, hsub, hgnd, hglt, hgm⟩
          have eR : R.take (R.map nV).length = R := by simp
          rw [eR] at hgm
          refine wn (Wp.nil ⟨g, .cons (hsub _ _ rfl) (.cons (hsub _ _ rfl) (.cons (hsub _ _ rfl) (.cons (hsub _ _ rfl) (.cons (hsub _ _ rfl) (.cons (hsub _ _ rfl) .nil))))), hgnd, hglt, fun n => ?_⟩)
          rw [hgm, h1m, hfs', htk']
          simp only [List.mem_append, List.mem_singleton]
          constructor
          · rintro (((h | ⟨a', h1, h2⟩) | h) | ⟨b', h1, h2, h3⟩)
            · exact .inl h
            · exact .inr ⟨a', .inl h1, h2⟩
            · exact .inr ⟨a, .inr rfl, .inl h⟩
            · exact .inr ⟨a, .inr rfl, .inr ⟨b', h1, h2, h3⟩⟩
          · rintro (h | ⟨a', h1 | rfl, h2⟩)
            · exact .inl (.inl (.inl h))
            · exact .inl (.inl (.inr ⟨a', h1, h2⟩))
            · rcases h2 with h2 | ⟨b', h3, h4, h5⟩
              · exact .inl (.inr h2)
              · exact .inr ⟨b', h3, h4, h5⟩
      · rintro ρ' ⟨fs', hsub, hfnd', hflt', hfs'⟩
        have eR : R.take (R.map nV).length = R := by simp
        rw [eR] at hfs'
        refine wn (Wp.nil ⟨fs', .cons (hsub _ _ rfl) (.cons (hsub _ _ rfl) (.cons (hsub _ _ rfl) (.cons (hsub _ _ rfl) .nil))), hfnd', hflt', fun n => ?_⟩)
        rw [hfs', hfs, htk]
        simp only [List.mem_append, List.mem_singleton]
        have hnx : (∃ a ∈ R, n = d + 2 ^ a ∨ ∃ b ∈ R, a < b ∧ n = d + 2 ^ a + 2 ^ b) ↔ Nx f d n := by
          constructor
          · rintro ⟨a, h1, h2⟩
            obtain ⟨k1, k2⟩ := (hRm a).mp h1
            refine ⟨a, k1, k2, h2.imp id ?_⟩
            rintro ⟨b, h3, h4, h5⟩
            obtain ⟨k3, k4⟩ := (hRm b).mp h3
            exact ⟨b, k3, k4, h4, h5⟩
          · rintro ⟨a, h1, h2, h3⟩
            refine ⟨a, (hRm a).mpr ⟨h1, h2⟩, h3.imp id ?_⟩
            rintro ⟨b, h4, h5, h6, h7⟩
            exact ⟨b, (hRm b).mpr ⟨h4, h5⟩, h6, h7⟩
        rw [hnx]
        constructor
        · rintro (⟨d', h1, h2⟩ | h)
          · exact ⟨d', .inl h1, h2⟩
          · exact ⟨d, .inr rfl, h⟩
        · rintro ⟨d', h1 | h1, h2⟩
          · exact .inl ⟨d', h1, h2⟩
          · exact .inr (h1 ▸ h2)
    · rintro ρ' ⟨fs, hsub, hfnd, hflt, hfs⟩
      have eK : ks.take ((kI ks).map V.int).length = ks := by simp [kI]
      rw [eK] at hfs
      refine wn (Wp.sub hsub (Wp.freezeD (x := "fresh") rfl (Wp.seq (WS.assign (Ev.v rfl) rfl (.inl rfl) (wn ?_)))))
      refine Wp.seq (WS.assign (V := .int ((t + 1 : Nat) : Int)) (Ev.cast (by push_cast; rfl) (Ev.iop (Ev.v rfl) (Ev.int 1 _) (IntOp.add _ _))) rfl (.inl rfl) (wn (Wp.nil ?_)))
      refine ⟨T - (t + 1), by omega, t + 1, fs, rfl, htT', .cons rfl (.cons rfl (.cons rfl .nil)), hfnd, hflt, fun n => ?_, fun t' ht' => ?_⟩
      · rw [hfs]
        show _ ↔ ∃ d, Lev f t d ∧ Nx f d n
        exact ⟨fun ⟨d, h1, h2⟩ => ⟨d, (hks d).mp h1, h2⟩, fun ⟨d, h1, h2⟩ => ⟨d, (hks d).mpr h1, h2⟩⟩
      · rcases Nat.lt_or_ge t' t with h | h
        · exact hno t' h
        · rw [show t' = t by omega]; exact h127
  · have : (127 : Int) ∈ kI ks := by
      rw [Bool.not_eq_false'] at hb
      exact List.contains_iff_mem.mp hb
    obtain ⟨n, hn, e⟩ := List.mem_map.mp this
    have : n = 127 := by omega
    subst this
    exact (hks 127).mp hn
set_option maxHeartbeats 2000000 in
theorem w16 {c : Cx} (G : Ground c) (f : Nat → Nat → Bool) {T : Nat} (hT : Lev f T 127) : PureFn c 0 (fdef 16) [.fl (rowsV (tab f))] (fun y => ∃ t : Nat, y = .int (t : Int) ∧ Lev f t 127 ∧ ∀ t', t' < t → ¬ Lev f t' 127) := by
  refine PureFn.of (ps := ["before"]) G.ok sig16 rfl (G.fn 16 (by simp)) (by simp [foot]) (P := fun fl ρ' => ∃ t : Nat, fl = .ret (.int (t : Int)) ∧ Lev f t 127 ∧ ∀ t', t' < t → ¬ Lev f t' 127) ?_ (fun fl ρ' ⟨t, h2, h3⟩ => ⟨t, by rw [h2]; rfl, h3⟩)
  refine Wp.seq (WS.assignCell (V := .fl ((List.range 7).map fun v => nV (need f v))) (Ev.castF (by rw [List.filter_eq_self.mpr (by simp)]) (Ev.freeze (Ev.compM nV nD nDV (l := List.range 7) (fun _ => true) (fun v => nV (need f v)) (Ev.rangeY G (n := 7) (Ev.int 7 _) (by omega)) (fun v hv => ?_) (by simp)))) rfl (.inr rfl) (wn ?_))
  · have hv7 : v < 7 := by simpa using hv
    refine ⟨rfl, _, rfl, Tsts.nil, fun _ U => El.ofEv (Ev.cast (a := ((((List.range 7).filter fun a => f a v).map fun a => ((2 ^ a : Nat) : Int)).sum)) ?_ (Ev.sum G (Ev.castF (by rw [List.map_map]; rfl) (Ev.freeze (Ev.compM nV nD nDV (l := List.range 7) (fun a => f a v) (fun a => .int ((2 ^ a : Nat) : Int)) (Ev.rangeY G (n := 7) (Ev.int 7 _) (by omega)) (fun a ha => ?_) (by simp)))) rfl)) rfl (by simp [nV])⟩
    · unfold need
      generalize (List.range 7).filter (fun a => f a v) = l
      induction l with
      | nil => rfl
      | cons x r ih => simp only [List.map_cons, List.sum_cons]; rw [ih]; push_cast; rfl
    · have ha7 : a < 7 := by simpa using ha
      exact ⟨rfl, _, rfl, Tsts.one (Tst.val (Ev.rdF (f := f) (n := a) (m := v) (Ev.v rfl) (Ev.v rfl) (Ev.v rfl) rfl rfl ha7 hv7) (Tru.bool _)), fun _ U => El.ofEv (Ev.pow2 (Ev.v rfl) (by omega)) rfl (by simp)⟩
  refine Wp.seq (WS.assignNewD (Ev.dict00 G.ok) (.inl rfl) (fun a0 => wn (Wp.freezeD (x := "level") rfl ?_)))
  refine Wp.seq (WS.assign (V := .int ((0 : Nat) : Int)) (Ev.int 0 _) rfl (.inl rfl) (wn ?_))
  exact Wp.sub (.cons rfl (.cons rfl (.cons rfl .nil))) (w16b G f hT)
end Mine
end
section
open PySem PyProof.Rows PySem.Calls
set_option maxRecDepth 10000
set_option linter.unusedVariables false
namespace Mine
def CmpZ (prog : Program) (w : World) (A : Around) (Z : FZ) (P : Nat → Value → Prop) (bt : Nat → Nat → Bool) : Prop :=
  ∀ i j vi vj (s : Shared) (Q : Value → Shared → Prop) (E : Value → Shared → Prop), ZIn Z s.heap → P i vi → P j vj → Q (.bool (bt i j)) s → wpAny (model prog w) A (richCompare .Lt vi vj) Q E s
section
variable {prog : Program} {w : World} {A : Around} {R : Result → Shared → Prop} {I : Addr} {fp wr : List Addr} {n : Nat} {P : Nat → Value → Prop} {St : Nat → Heap → Prop} {Z : FZ}
theorem ZIn.but {Z : FZ} {h h' : Heap} {wr : List Addr} (z : ZIn Z h) (hw : ∀ b ∈ wr, Z b = none) (k : ∀ b o, b ∉ wr → h.get? b = some o → h'.get? b = some o) : ZIn Z h' := fun a o e => k a o (fun q => by rw [hw a q] at e; cases e) (z a o e)
theorem ZIn.upd {Z : FZ} {h : Heap} {S : Addr} {g : Obj → Obj} (z : ZIn Z h) (hS : Z S = none) : ZIn Z (h.update S g) := fun a o e => by
  have : a ≠ S := fun q => by rw [q, hS] at e; cases e
  exact (Heap.get?_update_other _ _ (Ne.symm this)).trans (z a o e)

theorem min_loopZ (W : Walks prog w A.in1 I fp wr n P St) (bt : Nat → Nat → Bool) (hcmp : CmpZ prog w A.in1 Z P bt) (hZw : ∀ b ∈ wr, Z b = none) (S : Addr) (hZS : Z S = none) (hSf : S ∉ fp) :
    ∀ (k j : Nat) (s : Shared) (vb : Value) (c : Nat), n - (j + 1) = k → j + 1 ≤ n → ZIn Z s.heap → St (j + 1) s.heap → P (argBest bt j) vb →
    s.heap.get? S = some { cls := .type "list", dict := none, data := .seq #[vb, vb] c, slots := #[] } →
    (∀ v h' tk, P (argBest bt (n - 1)) v → (∀ b o, b ∉ wr → b ≠ S → s.heap.get? b = some o → h'.get? b = some o) → R (.ok (.ret v)) { s with heap := h', toks := tk }) →
    codeAny (model prog w) A (.builtin "min.loop" ⟨[.ref I, .none, .ref S], []⟩) R s := by
  have hSw : S ∉ wr := fun h => hSf (W.sub _ h)
  have hname : (toString "min" ++ toString ".loop" : String) = "min.loop" := by decide
  intro k
  induction k with
  | zero =>
    intro j s vb c hk hj hz hst hPb hS hR
    have hin : j + 1 = n := by omega
    refine codeAny_builtin PySem.F.entry_min_loop ?_
    rw [Around.under_plainId PySem.F.plain_min_loop _]
    show wpAny _ A.in1 (seqItems? (.ref S) >>= _) _ _ s
    refine wpAny_bind (wpAny_seqItems hS rfl ?_)
    show wpAny _ A.in1 (tryCatch (pyNext (.ref I)) _ >>= _) _ _ s
    refine wpAny_bind (wpAny_tryCatch (W.done s _ _ (hin ▸ hst) fun h' tk hk' => ?_))
    have hS' := hk' S _ hSw hS
    have hz' := hz.but hZw hk'
    show wpAny _ A.in1 (updateSeq S (fun _ => #[]) >>= _) _ _ _
    refine wpAny_bind ?_
    refine wpAny_updateSeq hS' rfl (wpAny_bind (wpAny_letGo (wpAny_pure ?_)))
    refine hR vb _ tk (by rw [← hin]; exact hPb) fun b o hbw hbS e => (Heap.get?_update_other _ _ (Ne.symm hbS)).trans (hk' b o hbw e)
  | succ k ih =>
    intro j s vb c hk hj hz hst hPb hS hR
    have hlt : j + 1 < n := by omega
    refine codeAny_builtin PySem.F.entry_min_loop ?_
    rw [Around.under_plainId PySem.F.plain_min_loop _]
    show wpAny _ A.in1 (seqItems? (.ref S) >>= _) _ _ s
    refine wpAny_bind (wpAny_seqItems hS rfl ?_)
    show wpAny _ A.in1 (tryCatch (pyNext (.ref I)) _ >>= _) _ _ s
    refine wpAny_bind (wpAny_tryCatch (W.item (j + 1) s _ _ hlt hst fun v h' tk hP hst' hk' => ?_))
    have hS' := hk' S _ hSw hS
    have hz' := hz.but hZw hk'
    show wpAny _ A.in1 (tryCatch (holding [v, v] (richCompare .Lt v vb >>= _)) _ >>= _) _ _ _
    refine wpAny_bind (wpAny_tryCatch (wpAny_holding (wpAny_bind (hcmp (j + 1) (argBest bt j) v vb _ _ _ hz' hP hPb ?_))))
    refine wpAny_bind (wpAny_holding (wpAny_truthy_bool ?_))
    refine wpAny_bind (wpAny_letGo (wpAny_pure ?_))
    cases hb : bt (j + 1) (argBest bt j) with
    | true =>
      simp only [if_true]
      refine wpAny_bind ?_
      refine wpAny_updateSeq hS' rfl (wpAny_bind (wpAny_letGo ?_))
      rw [hname]
      refine wpAny_pure ⟨plainId_quiet PySem.F.plain_min_loop _, ih (j + 1) _ v _ (by omega) hlt (hz'.upd hZS) (W.frame _ _ _ hst' fun b hbf o e => ?_) (by simp only [argBest, hb, if_true]; exact hP) (Heap.get?_update_self _ hS' rfl)
        fun v' h'' tk'' hP' hk'' => ?_⟩
      · exact (Heap.get?_update_other _ _ (fun h : S = b => hSf (by rw [h]; exact hbf))).trans e
      · exact hR v' h'' tk'' hP' fun b o hbw hbS e => hk'' b o hbw hbS ((Heap.get?_update_other _ _ (Ne.symm hbS)).trans (hk' b o hbw e))
    | false =>
      simp only [Bool.false_eq_true, if_false]
      refine wpAny_bind (wpAny_letGo ?_)
      rw [hname]
      refine wpAny_pure ⟨plainId_quiet PySem.F.plain_min_loop _, ih (j + 1) _ vb c (by omega) hlt hz' hst' (by simp only [argBest, hb, Bool.false_eq_true, if_false]; exact hPb) hS' fun v' h'' tk'' hP' hk'' => ?_⟩
      exact hR v' h'' tk'' hP' fun b o hbw hbS e => hk'' b o hbw hbS (hk' b o hbw e)

theorem min_loop_firstZ (W : Walks prog w A.in1 I fp wr n P St) (bt : Nat → Nat → Bool) (hcmp : CmpZ prog w A.in1 Z P bt) (hZw : ∀ b ∈ wr, Z b = none) (S : Addr) (hZS : Z S = none) (hSf : S ∉ fp) (hn : 0 < n) {s : Shared} {c : Nat} (hz : ZIn Z s.heap) (hst : St 0 s.heap)
    (hS : s.heap.get? S = some { cls := .type "list", dict := none, data := .seq #[] c, slots := #[] })
    (hR : ∀ v h' tk, P (argBest bt (n - 1)) v → (∀ b o, b ∉ wr → b ≠ S → s.heap.get? b = some o → h'.get? b = some o) → R (.ok (.ret v)) { s with heap := h', toks := tk }) :
    codeAny (model prog w) A (.builtin "min.loop" ⟨[.ref I, .none, .ref S], []⟩) R s := by
  have hSw : S ∉ wr := fun h => hSf (W.sub _ h)
  have hname : (toString "min" ++ toString ".loop" : String) = "min.loop" := by decide
  refine codeAny_builtin PySem.F.entry_min_loop ?_
  rw [Around.under_plainId PySem.F.plain_min_loop _]
  show wpAny _ A.in1 (seqItems? (.ref S) >>= _) _ _ s
  refine wpAny_bind (wpAny_seqItems hS rfl ?_)
  show wpAny _ A.in1 (tryCatch (pyNext (.ref I)) _ >>= _) _ _ s
  refine wpAny_bind (wpAny_tryCatch (W.item 0 s _ _ hn hst fun v h' tk hP hst' hk' => ?_))
  have hS' := hk' S _ hSw hS
  have hz' := hz.but hZw hk'
  show wpAny _ A.in1 (updateSeq S (fun _ => #[v, v]) >>= _) _ _ _
  refine wpAny_bind ?_
  refine wpAny_updateSeq hS' rfl ?_
  rw [hname]
  refine wpAny_pure ⟨plainId_quiet PySem.F.plain_min_loop _, min_loopZ W bt hcmp hZw S hZS hSf _ 0 _ v _ rfl hn (hz'.upd hZS) (W.frame _ _ _ hst' fun b hbf o e => ?_) hP (Heap.get?_update_self _ hS' rfl) fun v' h'' tk'' hP' hk'' => ?_⟩
  · exact (Heap.get?_update_other _ _ (fun h : S = b => hSf (by rw [h]; exact hbf))).trans e
  · exact hR v' h'' tk'' hP' fun b o hbw hbS e => hk'' b o hbw hbS ((Heap.get?_update_other _ _ (Ne.symm hbS)).trans (hk' b o hbw e))
end

section
variable {prog : Program} {w : World} {A : Around} {E : Value → Shared → Prop} {s : Shared} {Z : FZ}
theorem call_minZ {x : Value} {Q : Value → Shared → Prop}
    (h : wpAny (model prog w) A.in1 (pyIter x) (fun it s₂ => ∃ I fp wr n P St bt, it = .ref I ∧ Walks prog w A.in1 I fp wr n P St ∧ St 0 s₂.heap ∧ (∀ b ∈ fp, b < s₂.heap.objs.size) ∧ 0 < n ∧ CmpZ prog w A.in1 Z P bt ∧ (∀ b ∈ wr, Z b = none) ∧ ZIn Z s₂.heap ∧
      ∀ v h' tk, P (argBest bt (n - 1)) v → (∀ b o, b ∉ wr → s₂.heap.get? b = some o → h'.get? b = some o) → Q v { s₂ with heap := h', toks := tk }) E s) :
    wpAny (model prog w) A (call (.builtin "min") [x]) Q E s := by
  have hname : (toString "min" ++ toString ".loop" : String) = "min.loop" := by decide
  refine call_function_tree PySem.F.kind_min PySem.F.plain_min PySem.F.entry_min (PySem.F.args_min1 _) ?_
  show wpAny _ A.in1 (Builtin.Builtins.bindParams "min" ["key", "default"] 0 ⟨[], []⟩ >>= _) _ _ s
  refine wpAny_bind (wpAny_of_eq (show Builtin.Builtins.bindParams "min" ["key", "default"] 0 ⟨[], []⟩ = pure [none, none] from rfl) ?_)
  refine wpAny_bind (wpAny_pure ?_)
  refine wpAny_bind (wpAny_mono h (fun it s₂ h₂ => ?_) fun _ _ e => e)
  obtain ⟨I, fp, wr, n, P, St, bt, rfl, W, hst, hfp, hn, hcmp, hZw, hz, hQ⟩ := h₂
  refine wpAny_bind (wpAny_newObj_type ?_)
  have hSf : s₂.heap.objs.size ∉ fp := fun hm => Nat.lt_irrefl _ (hfp _ hm)
  rw [hname]
  refine wpAny_pure ⟨plainId_quiet PySem.F.plain_min_loop _, min_loop_firstZ W bt hcmp hZw s₂.heap.objs.size (Z_fresh hz fresh_size) hSf hn (fun a o e => Heap.get?_push_of_some _ (hz a o e)) (W.frame _ _ _ hst fun b _ o e => Heap.get?_push_of_some _ e) (Heap.get?_push_size _ rfl) fun v h' tk hP hk => ?_⟩
  exact hQ v h' tk hP fun b o hbw e => hk b o hbw (Nat.ne_of_lt (Heap.lt_size e)) (Heap.get?_push_of_some _ e)
end

section
variable {c : Cx}
/-- the place of the least -/
def minAt (l : List V) : Nat := argBest (fun i j => vlt (l.getD i .none) (l.getD j .none)) (l.length - 1)
theorem argBest_le (bt : Nat → Nat → Bool) : ∀ k, argBest bt k ≤ k
  | 0 => Nat.le_refl _
  | k + 1 => by
    unfold argBest
    split
    · exact Nat.le_refl _
    · exact Nat.le_succ_of_le (argBest_le bt k)
theorem CallOk.minL {x : V} {l : List V} {S : V → Prop} (hS : Cmp S) (h : x.items = some l) (hl : ∀ y ∈ l, S y) (hne : l ≠ []) : CallOk c (.builtin "min") [x] (Is c (l.getD (minAt l) .none)) := fun A s Z vs hA hB hv => by
  obtain ⟨v, rfl, r⟩ := RepL.inv1 hv
  obtain ⟨a, ws, rfl, hli, al⟩ := r.isList hB.zin h
  have hlen := al.length
  have hpos : 0 < l.length := by cases l with | nil => exact absurd rfl hne | cons => simp
  have hmin : minAt l < l.length := by have := argBest_le (fun i j => vlt (l.getD i .none) (l.getD j .none)) (l.length - 1); unfold minAt; omega
  refine call_minZ (Z := Z) ?_
  refine wpAny_pyIter_list hli ?_
  have hne' : a ≠ s.heap.objs.size := by obtain ⟨o, ho, _⟩ := hli; exact Nat.ne_of_lt (Heap.lt_size ho)
  refine ⟨s.heap.objs.size, [s.heap.objs.size, a], [s.heap.objs.size], ws.toArray.size, _, _, fun i j => vlt (l.getD i .none) (l.getD j .none), rfl, Walks.list (A := A.in1) hA.1 _ a hne' ws.toArray, ⟨⟨_, Heap.get?_push_size _ rfl, rfl, rfl⟩, hli.push _⟩, fun b hb => ?_, by rw [List.size_toArray]; omega, fun i j vi vj s' Q E z' hi hj hQ => ?_, fun b hb => ?_, fun b o e => Heap.get?_push_of_some _ (hB.zin b o e), fun v h' tk hP hk => ?_⟩
  · show b < (s.heap.push _).objs.size
    rw [Heap.size_push]
    simp only [List.mem_cons, List.not_mem_nil, or_false] at hb
    rcases hb with rfl | rfl
    · exact Nat.lt_succ_self _
    · obtain ⟨o, ho, _⟩ := hli; exact Nat.lt_succ_of_lt (Heap.lt_size ho)
  · simp only [List.getElem?_toArray] at hi hj
    obtain ⟨xi, h1, r1⟩ := al.get' i vi hi
    obtain ⟨xj, h2, r2⟩ := al.get' j vj hj
    have e1 : l.getD i .none = xi := by simp [List.getD, h1]
    have e2 : l.getD j .none = xj := by simp [List.getD, h2]
    have hQ' : Q (.bool (vlt (l.getD i .none) (l.getD j .none))) s' := hQ
    rw [e1, e2] at hQ'
    exact ltAt_V z' r1 r2 (by have := hA.2.2; show A.units + 1 + 8 < cLine; unfold cLine; omega) (hS.2 xi xj (hl _ (List.mem_of_getElem? h1)) (hl _ (List.mem_of_getElem? h2))) _ _ _ _ hQ'
  · simp only [List.mem_singleton] at hb; subst hb; exact Z_fresh hB.zin fresh_size
  · simp only [List.getElem?_toArray] at hP
    have e0 : ws.toArray.size - 1 = l.length - 1 := by rw [List.size_toArray, hlen]
    rw [e0] at hP
    obtain ⟨y, h1, r1⟩ := al.get' _ v hP
    have e1 : l.getD (minAt l) .none = y := by
      show l.getD (argBest (fun i j => vlt (l.getD i .none) (l.getD j .none)) (l.length - 1)) .none = y
      rw [List.getD_eq_getElem?_getD, h1]; rfl
    rw [e1]
    have k1 : ∀ b o, s.heap.get? b = some o → h'.get? b = some o := fun b o e => hk b o (by simp; exact Nat.ne_of_lt (Heap.lt_size e)) (Heap.get?_push_of_some _ e)
    exact ⟨Z, Up.of hB.zin k1, .imm r1⟩
variable {k : Nat} {sc : Scope} {ρ : Rho} {pos p : Pos}
theorem Ev.minL {e : Expr} {x : V} {l : List V} {S : V → Prop} (G : Ground c) (hS : Cmp S) (he : Ev c k sc ρ e (Is c x)) (h : x.items = some l) (hl : ∀ y ∈ l, S y) (hne : l ≠ []) (hx : sc.names.lookup ("min" : Str) = some .globalImplicit := by rfl) (hpl : plainE e = true := by rfl) : Ev c k sc ρ (.Call (.Name "min" p) [e] [] pos) (Is c (l.getD (minAt l) .none)) :=
  Ev.callB G.ok hx (G.bi _ (by simp)) (show bootBuiltins "min" = some (.builtin "min") by decide +kernel) (.inl ⟨_, rfl⟩) (EvA.cons he EvA.nil hpl) (CallOk.minL hS h hl hne) Pre.is (by simp [hpl])
end
end Mine
end
section
open PySem PyProof.Rows PySem.Calls PySem.W
set_option maxRecDepth 10000
set_option linter.unusedVariables false
namespace Mine
/-- the asks' answers -/
structure Ask (n : Nat) (o : Nat → Nat → Bool) (cmp : Nat → Nat → (Bool → Shared → Prop) → Shared → Prop) (s : Shared) : Prop where
  ask : ∀ i j C, i < n → j < n → C (o i j) s → cmp i j C s
  tr : ∀ i j k, i < n → j < n → k < n → o i j = true → o j k = true → o i k = true
  tot : ∀ i j, i < n → j < n → i ≠ j → o i j = true ∨ o j i = true
  asym : ∀ i j, i < n → j < n → o i j = true → o j i = false
def PermA (n : Nat) (p : Array Nat) : Prop := p.Perm (List.toArray (List.range n))
theorem PermA.size {n : Nat} {p : Array Nat} (h : PermA n p) : p.size = n := by have := h.size_eq; simpa using this
theorem PermA.list {n : Nat} {p : Array Nat} (h : PermA n p) : p.toList.Perm (List.range n) := by simpa using Array.perm_iff_toList_perm.mp h
theorem PermA.lt {n : Nat} {p : Array Nat} (h : PermA n p) {i : Nat} (hi : i < n) : p.getD i 0 < n := by
  have hs := h.size
  have e : p.getD i 0 = p[i]'(by omega) := by simp [Array.getD, show i < p.size by omega]
  rw [e]
  have := h.list.mem_iff.mp (Array.getElem_mem_toList (i := i) (by omega))
  simpa using this
theorem PermA.ne {n : Nat} {p : Array Nat} (h : PermA n p) {i j : Nat} (hi : i < n) (hj : j < n) (hij : i ≠ j) : p.getD i 0 ≠ p.getD j 0 := by
  have hs := h.size
  have e : ∀ k (hk : k < n), p.getD k 0 = p.toList[k]'(by simp; omega) := fun k hk => by simp [Array.getD, show k < p.size by omega]
  rw [e i hi, e j hj]
  have nd : p.toList.Nodup := h.list.nodup_iff.mpr List.nodup_range
  intro q
  exact hij ((List.getElem_inj nd).mp q)
def SortA (o : Nat → Nat → Bool) (p : Array Nat) (m : Nat) : Prop := ∀ i j, i < j → j < m → o (p.getD i 0) (p.getD j 0) = true
def DescA (o : Nat → Nat → Bool) (p : Array Nat) (m : Nat) : Prop := ∀ i j, i < j → j < m → o (p.getD j 0) (p.getD i 0) = true
theorem getD_of {p q : Array Nat} {i j : Nat} (h : p[i]? = q[j]?) : p.getD i 0 = q.getD j 0 := by
  have e : ∀ (a : Array Nat) (k : Nat), a.getD k 0 = a[k]?.getD 0 := fun a k => by simp
  rw [e, e, h]

section
variable {n : Nat} {o : Nat → Nat → Bool} {cmp : Nat → Nat → (Bool → Shared → Prop) → Shared → Prop} {s : Shared}
theorem SortA.snoc (H : Ask n o cmp s) {p : Array Nat} {m : Nat} (hp : PermA n p) (hm : m < n) (hm1 : 1 ≤ m) (h : SortA o p m) (ho : o (p.getD (m - 1) 0) (p.getD m 0) = true) : SortA o p (m + 1) := fun i j hij hj => by
  by_cases e : j = m
  · subst e
    by_cases e2 : i = j - 1
    · subst e2; exact ho
    · exact H.tr _ _ _ (hp.lt (by omega)) (hp.lt (by omega)) (hp.lt hm) (h i (j - 1) (by omega) (by omega)) ho
  · exact h i j hij (by omega)
theorem DescA.snoc (H : Ask n o cmp s) {p : Array Nat} {m : Nat} (hp : PermA n p) (hm : m < n) (hm1 : 1 ≤ m) (h : DescA o p m) (ho : o (p.getD m 0) (p.getD (m - 1) 0) = true) : DescA o p (m + 1) := fun i j hij hj => by
  by_cases e : j = m
  · subst e
    by_cases e2 : i = j - 1
    · subst e2; exact ho
    · exact H.tr _ _ _ (hp.lt hm) (hp.lt (by omega)) (hp.lt (by omega)) ho (h i (j - 1) (by omega) (by omega))
  · exact h i j hij (by omega)
theorem asc_spec (H : Ask n o cmp s) {p : Array Nat} (hp : PermA n p) {Q : Nat → Shared → Prop} : ∀ f m, 1 ≤ m → m + f ≤ n → SortA o p m → (∀ m', m ≤ m' → m' ≤ m + f → SortA o p m' → (m' = m + f ∨ o (p.getD m' 0) (p.getD (m' - 1) 0) = true) → Q m' s) → (kas_asc p f m).kasWp cmp Q s
  | 0, m, _, _, hs, hQ => hQ m (Nat.le_refl _) (by omega) hs (.inl rfl)
  | f + 1, m, h1, hf, hs, hQ => by
    refine H.ask _ _ _ (hp.lt (by omega)) (hp.lt (by omega)) ?_
    cases e : o (p.getD m 0) (p.getD (m - 1) 0) with
    | true => exact hQ m (Nat.le_refl _) (by omega) hs (.inr e)
    | false =>
      have ho : o (p.getD (m - 1) 0) (p.getD m 0) = true := by
        rcases H.tot _ _ (hp.lt (show m - 1 < n by omega)) (hp.lt (show m < n by omega)) (hp.ne (by omega) (by omega) (by omega)) with h | h
        · exact h
        · rw [e] at h; cases h
      exact asc_spec H hp f (m + 1) (by omega) (by omega) (hs.snoc H hp (by omega) h1 ho) fun m' h2 h3 h4 h5 => hQ m' (by omega) (by omega) h4 (h5.imp (fun q => by omega) id)
theorem desc_spec (H : Ask n o cmp s) {p : Array Nat} (hp : PermA n p) {Q : Array Nat × Nat × Nat → Shared → Prop} : ∀ f m, 1 ≤ m → m + f ≤ n → DescA o p m → (∀ m', m ≤ m' → m' ≤ m + f → DescA o p m' → Q (p, m', 0) s) → (kas_desc f p m 0).kasWp cmp Q s
  | 0, m, _, _, hs, hQ => hQ m (Nat.le_refl _) (by omega) hs
  | f + 1, m, h1, hf, hs, hQ => by
    refine H.ask _ _ _ (hp.lt (by omega)) (hp.lt (by omega)) ?_
    cases e : o (p.getD m 0) (p.getD (m - 1) 0) with
    | true => exact desc_spec H hp f (m + 1) (by omega) (by omega) (hs.snoc H hp (by omega) h1 e) fun m' h2 h3 h4 => hQ m' (by omega) (by omega) h4
    | false =>
      have ho : o (p.getD (m - 1) 0) (p.getD m 0) = true := by
        rcases H.tot _ _ (hp.lt (show m - 1 < n by omega)) (hp.lt (show m < n by omega)) (hp.ne (by omega) (by omega) (by omega)) with h | h
        · exact h
        · rw [e] at h; cases h
      refine H.ask _ _ _ (hp.lt (by omega)) (hp.lt (by omega)) ?_
      rw [ho]
      exact hQ m (Nat.le_refl _) (by omega) hs
theorem rev_perm {p : Array Nat} (hp : PermA n p) (m : Nat) : PermA n (kas_rev p 0 m) := (mirror_perm p 0 m _).trans hp
theorem rev_get {p : Array Nat} (hp : PermA n p) {m : Nat} (hm : m ≤ n) {i : Nat} (hi : i < m) : (kas_rev p 0 m).getD i 0 = p.getD (m - 1 - i) 0 := by
  refine getD_of ?_
  have := getElem?_mirror_all (xs := p) (i := 0) (j := m) (by rw [hp.size]; exact hm) i
  rw [if_pos ⟨Nat.zero_le _, hi⟩] at this
  rw [show m - 1 - i = 0 + m - 1 - i by omega]
  exact this
theorem rev_sorted {p : Array Nat} (hp : PermA n p) {m : Nat} (hm : m ≤ n) (h : DescA o p m) : SortA o (kas_rev p 0 m) m := fun i j hij hj => by
  rw [rev_get hp hm (by omega), rev_get hp hm hj]
  exact h (m - 1 - j) (m - 1 - i) (by omega) (by omega)
theorem tail3_spec (H : Ask n o cmp s) {p : Array Nat} (hp : PermA n p) {Q : Nat × Array Nat → Shared → Prop} {m : Nat} (h1 : 1 ≤ m) (hm : m ≤ n) (hd : DescA o p m) (hQ : ∀ m' q, PermA n q → 1 ≤ m' → m' ≤ n → SortA o q m' → Q (m', q) s) : (kas_tail3 m n p).kasWp cmp Q s := by
  unfold kas_tail3
  rw [KasT.kasWp_bind]
  exact asc_spec H (rev_perm hp m) _ m h1 (by omega) (rev_sorted hp hm hd) fun m' h2 h3 h4 _ => hQ m' _ (rev_perm hp m) (by omega) (by omega) h4
theorem descPart_spec (H : Ask n o cmp s) {p : Array Nat} (hp : PermA n p) {Q : Nat × Array Nat → Shared → Prop} (h2 : 2 ≤ n) (hd : o (p.getD 1 0) (p.getD 0 0) = true) (hQ : ∀ m' q, PermA n q → 1 ≤ m' → m' ≤ n → SortA o q m' → Q (m', q) s) : (kas_descPart 1 n p).kasWp cmp Q s := by
  unfold kas_descPart
  rw [KasT.kasWp_bind]
  have h0 : DescA o p 2 := fun i j hij hj => by
    have : i = 0 ∧ j = 1 := by omega
    rw [this.1, this.2]; exact hd
  refine desc_spec H hp _ 2 (by omega) (by omega) h0 fun m' h3 h4 h5 => ?_
  show KasT.kasWp cmp (if (0 : Nat) > 0 then _ else kas_tail3 m' n p) Q s
  rw [if_neg (by omega)]
  exact tail3_spec H hp (by omega) (by omega) h5 hQ
theorem count_spec (H : Ask n o cmp s) {p : Array Nat} (hp : PermA n p) {Q : Nat × Array Nat → Shared → Prop} (h2 : 2 ≤ n) (hQ : ∀ m' q, PermA n q → 1 ≤ m' → m' ≤ n → SortA o q m' → Q (m', q) s) : (kas_count n p).kasWp cmp Q s := by
  unfold kas_count
  rw [KasT.kasWp_bind]
  refine asc_spec H hp _ 1 (Nat.le_refl _) (by omega) (fun i j hij hj => by omega) fun m h3 h4 h5 h6 => ?_
  show KasT.kasWp cmp (if (m == n) = true then _ else _) Q s
  by_cases hmn : m = n
  · rw [if_pos (by simp [hmn])]
    exact hQ m p hp h3 (by omega) h5
  · rw [if_neg (by simp [hmn])]
    have hlt : o (p.getD m 0) (p.getD (m - 1) 0) = true := h6.elim (fun q => absurd q (by omega)) id
    by_cases hm1 : m > 1
    · rw [if_pos hm1]
      refine H.ask _ _ _ (hp.lt (by omega)) (hp.lt (by omega)) ?_
      rw [h5 0 (m - 1) (by omega) (by omega)]
      show KasT.kasWp cmp (if true = true then _ else _) Q s
      rw [if_pos rfl]
      exact hQ m p hp h3 (by omega) h5
    · rw [if_neg hm1]
      have : m = 1 := by omega
      subst this
      exact descPart_spec H hp h2 hlt hQ
theorem place_spec (H : Ask n o cmp s) {p : Array Nat} (hp : PermA n p) {k : Nat} (hk : k < n) (hs : SortA o p k) {Q : Nat → Shared → Prop} : ∀ f l r, l ≤ r → r ≤ k → r - l ≤ f → (∀ i, i < l → o (p.getD i 0) (p.getD k 0) = true) → (∀ i, r ≤ i → i < k → o (p.getD k 0) (p.getD i 0) = true) →
    (∀ l', l' ≤ k → (∀ i, i < l' → o (p.getD i 0) (p.getD k 0) = true) → (∀ i, l' ≤ i → i < k → o (p.getD k 0) (p.getD i 0) = true) → Q l' s) → (kas_place p k f l r).kasWp cmp Q s
  | 0, l, r, h1, h2, h3, h4, h5, hQ => hQ l (by omega) h4 fun i hi hik => h5 i (by omega) hik
  | f + 1, l, r, h1, h2, h3, h4, h5, hQ => by
    unfold kas_place
    by_cases hlr : l ≥ r
    · rw [if_pos hlr]; exact hQ l (by omega) h4 fun i hi hik => h5 i (by omega) hik
    · rw [if_neg hlr]
      refine H.ask _ _ _ (hp.lt (by omega)) (hp.lt (by omega)) ?_
      cases e : o (p.getD k 0) (p.getD ((l + r) / 2) 0) with
      | true =>
        show KasT.kasWp cmp (if true = true then _ else _) Q s
        rw [if_pos rfl]
        refine place_spec H hp hk hs f l ((l + r) / 2) (by omega) (by omega) (by omega) h4 (fun i hi hik => ?_) hQ
        by_cases e2 : i = (l + r) / 2
        · rw [e2]; exact e
        · exact H.tr _ _ _ (hp.lt hk) (hp.lt (by omega)) (hp.lt (by omega)) e (hs _ i (by omega) hik)
      | false =>
        show KasT.kasWp cmp (if false = true then _ else _) Q s
        rw [if_neg (by simp)]
        have ho : o (p.getD ((l + r) / 2) 0) (p.getD k 0) = true := by
          rcases H.tot _ _ (hp.lt (show (l + r) / 2 < n by omega)) (hp.lt hk) (hp.ne (by omega) (by omega) (by omega)) with h | h
          · exact h
          · rw [e] at h; cases h
        refine place_spec H hp hk hs f ((l + r) / 2 + 1) r (by omega) h2 (by omega) (fun i hi => ?_) h5 hQ
        by_cases e2 : i = (l + r) / 2
        · rw [e2]; exact ho
        · exact H.tr _ _ _ (hp.lt (by omega)) (hp.lt (by omega)) (hp.lt hk) (hs i _ (by omega) (by omega)) ho
theorem bub_get {p : Array Nat} (hp : PermA n p) {k l : Nat} (hk : k < n) (hl : l ≤ k) (i : Nat) : (bubble p k (k - l)).getD i 0 = if i = l then p.getD k 0 else if l < i ∧ i ≤ k then p.getD (i - 1) 0 else p.getD i 0 := by
  have := getElem?_bubble (xs := p) (src := k) (by rw [hp.size]; exact hk) (k - l) (by omega) i
  rw [show k - (k - l) = l by omega] at this
  by_cases h1 : i = l
  · rw [if_pos h1] at this ⊢; exact getD_of this
  · rw [if_neg h1] at this ⊢
    by_cases h2 : l < i ∧ i ≤ k
    · rw [if_pos h2] at this ⊢; exact getD_of this
    · rw [if_neg h2] at this ⊢; exact getD_of this
theorem bin_spec (H : Ask n o cmp s) {Q : Array Nat → Shared → Prop} (hQ : ∀ q, PermA n q → SortA o q n → Q q s) : ∀ f p k, PermA n p → k + f = n → SortA o p k → (kas_bin f p k).kasWp cmp Q s
  | 0, p, k, hp, hk, hs => hQ p hp (by rw [← hk]; exact hs)
  | f + 1, p, k, hp, hk, hs => by
    unfold kas_bin
    rw [KasT.kasWp_bind]
    refine place_spec H hp (by omega) hs k 0 k (Nat.zero_le _) (Nat.le_refl _) (by omega) (fun i hi => by omega) (fun i hi hik => by omega) fun l hl h1 h2 => ?_
    refine bin_spec H hQ f _ (k + 1) ((bubble_perm p k (k - l)).trans hp) (by omega) fun i j hij hj => ?_
    rw [bub_get hp (by omega) hl, bub_get hp (by omega) hl]
    by_cases ei : i = l
    · rw [if_pos ei, if_neg (by omega), if_pos (by omega)]
      exact h2 (j - 1) (by omega) (by omega)
    · rw [if_neg ei]
      by_cases ej : j = l
      · rw [if_pos ej, if_neg (by omega)]
        exact h1 i (by omega)
      · rw [if_neg ej]
        by_cases e1 : l < i ∧ i ≤ k
        · rw [if_pos e1, if_pos (by omega)]; exact hs _ _ (by omega) (by omega)
        · rw [if_neg e1]
          by_cases e2 : l < j ∧ j ≤ k
          · rw [if_pos e2]; exact hs _ _ (by omega) (by omega)
          · rw [if_neg e2]; exact hs _ _ (by omega) (by omega)
theorem sort_spec (H : Ask n o cmp s) (h2 : 2 ≤ n) {Q : Array Nat → Shared → Prop} (hQ : ∀ q, PermA n q → SortA o q n → Q q s) : (kas_sort n).kasWp cmp Q s := by
  unfold kas_sort
  rw [KasT.kasWp_bind]
  refine count_spec H (Array.Perm.refl _) h2 fun m q hq h1 hm hs => ?_
  show KasT.kasWp cmp (if m < n then _ else _) Q s
  by_cases hmn : m < n
  · rw [if_pos hmn]
    have : max m 1 = m := by omega
    show KasT.kasWp cmp (kas_bin (n - max m 1) q (max m 1)) Q s
    rw [this]
    exact bin_spec H hQ _ q m hq (by omega) hs
  · rw [if_neg hmn]
    have : m = n := by omega
    subst this
    exact hQ q hq hs
end
end Mine
end
section
open PySem PyProof.Rows PySem.Calls PySem.W
set_option maxRecDepth 100000
set_option linter.unusedVariables false
namespace Mine
def isPair (x : V) : Prop := ∃ a b, x = .pair a b
theorem cmpPair : Cmp isPair := ⟨fun x ⟨a, b, h⟩ => by subst h; simp [foot], fun x y ⟨a, b, h⟩ ⟨a', b', h'⟩ => by subst h; subst h'; rfl⟩
def isItem (x : V) : Prop := ∃ a b, x = .item a b
theorem cmpItem : Cmp isItem := ⟨fun x ⟨a, b, h⟩ => by subst h; simp [foot], fun x y ⟨a, b, h⟩ ⟨a', b', h'⟩ => by subst h; subst h'; rfl⟩
theorem vlt_pair (a b a' b' : Int) : vlt (.pair a b) (.pair a' b') = if a = a' then decide (b < b') else decide (a < a') := rfl

section
variable {c : Cx} {Z : FZ} {s : Shared} {A : Around}
theorem pair_lt {v w : Value} {x y : V} {E : Value → Shared → Prop} {C : Bool → Shared → Prop} (z : ZIn Z s.heap) (hv : IRep c Z v x) (hw : IRep c Z w y) (hx : isPair x) (hy : isPair y) (h : C (vlt x y) s) : wpAny (model c.prog c.w) A (keyLt' (tuples' true) v w) C E s := by
  obtain ⟨a, b, rfl⟩ := hx
  obtain ⟨a', b', rfl⟩ := hy
  cases hv with
  | @pair T _ _ t u hs =>
    cases hw with
    | @pair T' _ _ t' u' hs' =>
      obtain ⟨o1, e1, c1, n1, d1⟩ := hs
      obtain ⟨o2, e2, c2, n2, d2⟩ := hs'
      refine kat_lt (z _ _ e1) d1 (z _ _ e2) d2 ?_
      rw [vlt_pair] at h
      refine kat_cons ((SeqAt.EqAt.int_int a t a' t') _ _ _ _ ?_)
      cases e : (a == a') with
      | true =>
        have ea : a = a' := by simpa using e
        refine kat_yes (kat_cons ((SeqAt.EqAt.int_int b u b' u') _ _ _ _ ?_))
        rw [if_pos ea] at h
        cases e2 : (b == b') with
        | true =>
          have eb : b = b' := by simpa using e2
          refine kat_yes (kat_nil ?_)
          rw [eb] at h
          simpa using h
        | false => exact kat_no (kat_one _ _ (lt_int h))
      | false =>
        have ea : ¬ a = a' := by simpa using e
        rw [if_neg ea] at h
        exact kat_no (oneLt_int h)

theorem pairs_kind {vs : List Value} {l : List V} {M : Model} {Q : SortKind → Shared → Prop} {E : Value → Shared → Prop} (z : ZIn Z s.heap) (al : AllR c Z vs l) (hl : ∀ x ∈ l, isPair x) (hne : 0 < vs.length) (h : Q (tuples' true) s) : wpAny M A (keyKind' vs.toArray) Q E s := by
  have key : ∀ (vs : List Value) (l : List V), AllR c Z vs l → (∀ x ∈ l, isPair x) → ∃ fs : List Value, KatTups s.heap vs fs ∧ fs.length = vs.length ∧ ∀ v ∈ fs, ∃ i t, v = Value.int i t := by
    intro vs l al
    induction vs generalizing l with
    | nil => intro _; exact ⟨[], KatTups.nil, rfl, by simp⟩
    | cons v vs ih =>
      intro hl
      cases al with
      | cons r al =>
        rename_i x xs
        obtain ⟨fs, h1, h2, h3⟩ := ih xs al fun y hy => hl y (by simp [hy])
        obtain ⟨a, b, rfl⟩ := hl x (by simp)
        cases r with
        | @pair T _ _ t u hs =>
          obtain ⟨o1, e1, c1, n1, d1⟩ := hs
          refine ⟨.int a t :: fs, KatTups.cons (z _ _ e1) c1 d1 (by simp) h1, by simp [h2], fun v hv => ?_⟩
          rcases List.mem_cons.mp hv with rfl | hv
          · exact ⟨_, _, rfl⟩
          · exact h3 v hv
  obtain ⟨fs, h1, h2, h3⟩ := key vs l al hl
  exact kat_kind (T := .type "int") h1 (by omega) (fun v hv => by obtain ⟨i, t, rfl⟩ := h3 v hv; exact Looks.of_pure rfl) rfl h

def DescL (l R : List V) : Prop := R.Perm l ∧ R.Pairwise fun x y => vlt y x = true
theorem AllR.reverse {vs : List Value} {l : List V} (h : AllR c Z vs l) : AllR c Z vs.reverse l.reverse := by
  have key : ∀ (vs : List Value) (l : List V), AllR c Z vs l → AllR c Z vs.reverse l.reverse := by
    intro vs
    induction vs with
    | nil => intro l h; cases h; exact .nil
    | cons v r ih => intro l h; cases h with | cons a b => rw [List.reverse_cons, List.reverse_cons]; exact (ih _ b).append (.cons a .nil)
  exact key vs l h
theorem AllR.pickI {vs : List Value} {l : List V} (h : AllR c Z vs l) : ∀ {is : List Nat}, (∀ i ∈ is, i < l.length) → AllR c Z (is.map fun i => vs.getD i .none) (is.map fun i => l.getD i .none)
  | [], _ => .nil
  | i :: is, hi => by
    have hlen := h.length
    have h0 := hi i (by simp)
    obtain ⟨v, hv, r⟩ := h.get i (l.getD i .none) (by simp [h0])
    have e : vs.getD i .none = v := by rw [List.getD_eq_getElem?_getD, hv]; rfl
    refine .cons (by show IRep c Z (vs.getD i .none) (l.getD i .none); rw [e]; exact r) (AllR.pickI h fun j hj => hi j (by simp [hj]))
theorem vlt_tr {x y z : V} (hx : isPair x) (hy : isPair y) (hz : isPair z) (h1 : vlt x y = true) (h2 : vlt y z = true) : vlt x z = true := by
  obtain ⟨a, b, rfl⟩ := hx; obtain ⟨a', b', rfl⟩ := hy; obtain ⟨a'', b'', rfl⟩ := hz
  rw [vlt_pair] at *
  split at h1 <;> split at h2 <;> split <;> simp at * <;> omega
theorem vlt_tot {x y : V} (hx : isPair x) (hy : isPair y) (h : x ≠ y) : vlt x y = true ∨ vlt y x = true := by
  obtain ⟨a, b, rfl⟩ := hx; obtain ⟨a', b', rfl⟩ := hy
  rw [vlt_pair, vlt_pair]
  by_cases e : a = a'
  · subst e
    have : b ≠ b' := fun q => h (by rw [q])
    simp; omega
  · rw [if_neg e, if_neg (Ne.symm e)]
    simp; omega
theorem vlt_asym {x y : V} (hx : isPair x) (hy : isPair y) (h : vlt x y = true) : vlt y x = false := by
  obtain ⟨a, b, rfl⟩ := hx; obtain ⟨a', b', rfl⟩ := hy
  rw [vlt_pair] at *
  split at h <;> split <;> simp at * <;> omega
theorem ZIn.sort {a : Addr} {g : Obj → Obj} {o1 o2 : Obj} {h : Heap} (z : ZIn Z h) (hZ : Z a = none) : ZIn Z (((h.update a g).push o1).push o2) := fun b o e => by
  have : b ≠ a := fun q => by rw [q, hZ] at e; cases e
  exact Heap.get?_push_of_some _ (Heap.get?_push_of_some _ ((Heap.get?_update_other _ _ (Ne.symm this)).trans (z b o e)))

theorem sort_pairs_tree {a : Addr} {vs : List Value} {l : List V} {n : Nat} {P : PySem.Fin → Shared → Prop} {E : Value → Shared → Prop} (ho : s.heap.get? a = some (seqObj "list" vs.toArray n)) (z : ZIn Z s.heap) (hZ : Z a = none) (al : AllR c Z vs l) (hl : ∀ x ∈ l, isPair x) (hnd : l.Nodup)
    (h64 : vs.length < 64) (h : ∀ (out : Array Value) (R : List V), AllR c Z out.toList R → DescL l R → P (.done (.ret .none)) { s with heap := sortedHeap s.heap a vs out }) :
    wpAny (model c.prog c.w) A (Builtin.«list.sort» ⟨[.ref a], [(Str.ofString "reverse", .bool true)]⟩) P E s := by
  rw [list_sort_rev]
  have ha : a < s.heap.objs.size := Heap.lt_size ho
  have hlen := al.length
  refine wpAny_bind (listItems_at ho rfl ?_)
  refine wpAny_bind (listUpdate_at ho rfl ?_ (by rw [List.size_toArray, sizeLine_eq]; omega) (Nat.zero_le _))
  obtain ⟨e1, ho1⟩ : ∃ e1, (s.heap.update a (Obj.mapSeq fun _ => #[])).get? a = some (seqObj "list" #[] e1) := ⟨_, get?_update_seq ho (fun _ => #[])⟩
  refine wpAny_bind (seqEpoch_at ho1 rfl ?_)
  refine wpAny_bind (wpAny_newTuple ?_ (by show vs.length ≤ _; rw [sizeLine_eq]; omega))
  refine wpAny_bind (wpAny_newList ?_ (Nat.zero_le _))
  refine wpAny_holding ?_
  have ho6 : (((s.heap.update a (Obj.mapSeq fun _ => #[])).push (seqObj "tuple" vs.toArray 0)).push (seqObj "list" #[] 0)).get? a = some (seqObj "list" #[] e1) := by
    rw [Heap.get?_push_ne _ _ _ (by rw [size_push', Heap.size_update]; exact Nat.ne_of_lt (Nat.lt_succ_of_lt ha)), Heap.get?_push_ne _ _ _ (by rw [Heap.size_update]; exact Nat.ne_of_lt ha)]
    exact ho1
  show wpAny (model c.prog c.w) A _ P E { s with heap := ((s.heap.update a (Obj.mapSeq fun _ => #[])).push (seqObj "tuple" vs.toArray 0)).push (seqObj "list" #[] 0) }
  have z6 : ZIn Z (((s.heap.update a (Obj.mapSeq fun _ => #[])).push (seqObj "tuple" vs.toArray 0)).push (seqObj "list" #[] 0)) := z.sort hZ
  have hsz : vs.toArray.size = vs.length := by simp
  dsimp only
  rw [if_pos rfl]
  refine wpAny_bind (wpAny_rule ?_)
  by_cases h2 : vs.toArray.size < 2
  · rw [if_pos h2, if_pos h2]
    refine wpAny_bind (wpAny_pure ?_)
    rw [StateT.run_pure]
    refine wpAny_bind (wpAny_pure ?_)
    dsimp only
    refine wpAny_bind (seqEpoch_at ho6 rfl ?_)
    refine wpAny_bind (listUpdate_at ho6 rfl ?_ (Nat.zero_le _) (by
      rw [if_pos rfl, Array.size_reverse, Array.size_map]
      show (if true = true then (vs.toArray.zip vs.toArray).reverse else vs.toArray.zip vs.toArray).size ≤ _
      rw [if_pos rfl, Array.size_reverse, Array.size_zip, sizeLine_eq]; omega))
    simp only [bne_self_eq_false, Bool.false_eq_true, if_false]
    refine wpAny_pure (h _ l ?_ ⟨List.Perm.refl _, ?_⟩)
    · have e : (((vs.toArray.zip vs.toArray).reverse.map (·.2)).reverse).toList = vs := by
        rw [Array.toList_reverse, Array.toList_map, Array.toList_reverse, Array.toList_zip, List.map_reverse, List.reverse_reverse]
        exact List.map_snd_zip (Nat.le_refl _)
      show AllR c Z (((vs.toArray.zip vs.toArray).reverse.map (·.2)).reverse).toList l
      rw [e]; exact al
    · match l, hlen with
      | [], _ => exact .nil
      | [x], _ => simp
      | x :: y :: r, hl' => exfalso; rw [hsz] at h2; simp at hl'; omega
  · rw [if_neg h2, if_neg h2]
    have h2' : 2 ≤ vs.length := by rw [hsz] at h2; omega
    refine wpAny_bind (pairs_kind z6 al hl (by omega) ?_)
    have epair : (if true = true then (vs.toArray.zip vs.toArray).reverse else vs.toArray.zip vs.toArray) = (vs.reverse).toArray.zip (vs.reverse).toArray := by
      have := kat_pairs (ks := vs) (vs := vs) true rfl
      simpa [katRev] using this
    rw [epair]
    generalize hrs : vs.reverse = rs
    generalize hlr : l.reverse = lr
    have alr : AllR c Z rs lr := hrs ▸ hlr ▸ al.reverse
    have hrl : rs.length = vs.length := by rw [← hrs]; simp
    have hlrl : lr.length = rs.length := alr.length.symm
    have hlp : ∀ x ∈ lr, isPair x := fun x hx => hl x (by rw [← hlr] at hx; simpa using hx)
    have hlnd : lr.Nodup := by rw [← hlr]; exact (List.reverse_perm l).nodup_iff.mpr hnd
    have pg : ∀ i, i < rs.length → isPair (lr.getD i .none) := fun i hi => hlp _ (by simp [show i < lr.length by omega])
    have H : ∀ B : Around, Ask rs.length (fun i j => vlt (lr.getD i .none) (lr.getD j .none)) (kas_ask c.prog c.w B (tuples' true) rs) { s with heap := ((s.heap.update a (Obj.mapSeq fun _ => #[])).push (seqObj "tuple" vs.toArray 0)).push (seqObj "list" #[] 0) } := fun B =>
      { ask := fun i j C hi hj hC => by
          obtain ⟨v, hv, r⟩ := alr.get i (lr.getD i .none) (by simp [show i < lr.length by omega])
          obtain ⟨w, hw, r'⟩ := alr.get j (lr.getD j .none) (by simp [show j < lr.length by omega])
          have ev : rs.getD i .none = v := by rw [List.getD_eq_getElem?_getD, hv]; rfl
          have ew : rs.getD j .none = w := by rw [List.getD_eq_getElem?_getD, hw]; rfl
          show wpAny (model c.prog c.w) B (keyLt' (tuples' true) (rs.getD i .none) (rs.getD j .none)) C _ _
          rw [ev, ew]
          exact pair_lt z6 r r' (pg i hi) (pg j hj) hC
        tr := fun i j k hi hj hk h1 h2 => vlt_tr (pg i hi) (pg j hj) (pg k hk) h1 h2
        tot := fun i j hi hj hij => vlt_tot (pg i hi) (pg j hj) (fun q => hij (by
          have e1 : lr.getD i .none = lr[i]'(by omega) := by simp [show i < lr.length by omega]
          have e2 : lr.getD j .none = lr[j]'(by omega) := by simp [show j < lr.length by omega]
          rw [e1, e2] at q
          exact (List.getElem_inj hlnd).mp q))
        asym := fun i j hi hj h1 => vlt_asym (pg i hi) (pg j hj) h1 }
    refine wpAny_bind (wpAny_mono (kat_run (ks := rs) (vs := rs) (Q := fun st' s' => ∃ p : Array Nat, p.size = rs.length ∧ arrOf st' = p.map (kas_item (rs.toArray.zip rs.toArray)) ∧ failedOf st' = none ∧
        (s' = { s with heap := ((s.heap.update a (Obj.mapSeq fun _ => #[])).push (seqObj "tuple" vs.toArray 0)).push (seqObj "list" #[] 0) } ∧ PermA rs.length p ∧ SortA (fun i j => vlt (lr.getD i .none) (lr.getD j .none)) p rs.length))
      (G := fun p s' => s' = { s with heap := ((s.heap.update a (Obj.mapSeq fun _ => #[])).push (seqObj "tuple" vs.toArray 0)).push (seqObj "list" #[] 0) } ∧ PermA rs.length p ∧ SortA (fun i j => vlt (lr.getD i .none) (lr.getD j .none)) p rs.length)
      rfl (by omega) (by omega) (fun p' st' s' a1 a2 a3 a4 => ⟨p', a1, a2, a3, a4⟩) (sort_spec (H A) (by omega) fun q h3 h4 => ⟨rfl, h3, h4⟩)) ?_ fun _ _ e => e)
    rintro ⟨⟨⟩, st'⟩ s' ⟨p, hp, har, hf, rfl, hperm, hsort⟩
    dsimp only
    have hout := kat_snds (ks := rs) (vs := rs) rfl har
    have hosz : (List.toArray (p.toList.map fun i => rs.getD i Value.none)).size = vs.length := by rw [List.size_toArray, List.length_map, Array.length_toList, hp, hrl]
    rw [hout]
    refine wpAny_bind (seqEpoch_at ho6 rfl ?_)
    refine wpAny_bind (listUpdate_at ho6 rfl ?_ (Nat.zero_le _) (by rw [if_pos rfl, Array.size_reverse, hosz, sizeLine_eq]; omega))
    rw [hf]
    simp only [bne_self_eq_false, Bool.false_eq_true, if_false]
    have plt : ∀ i ∈ p.toList, i < lr.length := fun i hi => by
      have := hperm.list.mem_iff.mp hi
      simp at this; omega
    refine wpAny_pure (h _ (p.toList.map fun i => lr.getD i .none).reverse ?_ ⟨?_, ?_⟩)
    · show AllR c Z ((List.toArray (p.toList.map fun i => rs.getD i Value.none)).reverse).toList _
      rw [Array.toList_reverse]
      exact (alr.pickI plt).reverse
    · have e1 : (p.toList.map fun i => lr.getD i .none).Perm lr := by
        have h5 := (hperm.list).map fun i => lr.getD i .none
        refine h5.trans ?_
        have : (List.range rs.length).map (fun i => lr.getD i .none) = lr := by
          apply List.ext_getElem?
          intro i
          by_cases hi : i < rs.length
          · simp [hi, show i < lr.length by omega]
          · rw [List.getElem?_eq_none (by simp; omega), List.getElem?_eq_none (by omega)]
        rw [this]
      exact (List.reverse_perm _).trans (e1.trans (hlr ▸ List.reverse_perm l))
    · rw [List.pairwise_reverse, List.pairwise_map, List.pairwise_iff_getElem]
      intro i j hi hj hij
      have e : ∀ k (hk : k < p.toList.length), p.toList[k] = p.getD k 0 := fun k hk => by
        have : k < p.size := by simpa using hk
        simp [Array.getD, this]
      rw [e i hi, e j hj]
      exact hsort i j hij (by simp at hj; omega)

theorem sorted_pairs_rev {la : Addr} {vs : List Value} {l : List V} {Q : Value → Shared → Prop} {E : Value → Shared → Prop} (hli : s.heap.IsList la vs.toArray) (z : ZIn Z s.heap) (al : AllR c Z vs l) (hl : ∀ x ∈ l, isPair x) (hnd : l.Nodup) (h64 : vs.length < 64)
    (h : ∀ (out : Array Value) (R : List V), AllR c Z out.toList R → DescL l R → Q (.ref (s.heap.objs.size + 1)) { s with heap := sortedAll s.heap vs out }) :
    wpAny (model c.prog c.w) A (call (.builtin "sorted") [.ref la] [(Str.ofString "reverse", .bool true)]) Q E s := by
  refine call_function_entry_kw kind_sorted plain_sorted entry_sorted (args_sorted_rev _ _) ?_
  unfold Builtin.«sorted»
  refine wpAny_bind (m := checkCount "sorted" 1 1 _) (wpAny_pure ?_)
  refine wpAny_bind (collect_list hli ?_ (by rw [sizeLine_eq]; omega))
  refine wpAny_bind (wpAny_newList ?_ (by rw [sizeLine_eq]; omega))
  have hsz : ((s.heap.push (seqObj "list" #[] 0)).update s.heap.objs.size (Obj.mapSeq (· ++ vs.toArray))).objs.size = s.heap.objs.size + 1 := by
    rw [Heap.size_update, size_push']
  have hoL : (((s.heap.push (seqObj "list" #[] 0)).update s.heap.objs.size (Obj.mapSeq (· ++ vs.toArray))).push (seqObj "list" vs.toArray 0)).get? (s.heap.objs.size + 1) = some (seqObj "list" vs.toArray 0) := by
    rw [← hsz]; exact Heap.get?_push_size _ rfl
  have z2 : ZIn Z (((s.heap.push (seqObj "list" #[] 0)).update s.heap.objs.size (Obj.mapSeq (· ++ vs.toArray))).push (seqObj "list" vs.toArray 0)) := fun b o e => by
    have e' := z b o e
    have hlt : b < s.heap.objs.size := Heap.lt_size e'
    rw [Heap.get?_push_ne _ _ _ (by rw [hsz]; exact Nat.ne_of_lt (Nat.lt_succ_of_lt hlt)), Heap.get?_update_ne _ _ _ _ (Nat.ne_of_lt hlt), Heap.get?_push_ne _ _ _ (Nat.ne_of_lt hlt)]
    exact e'
  show wpAny _ _ _ _ _ { s with heap := ((s.heap.push (seqObj "list" #[] 0)).update s.heap.objs.size (Obj.mapSeq (· ++ vs.toArray))).push (seqObj "list" vs.toArray 0) }
  rw [hsz]
  refine wpAny_bind (wpAny_holding (wpAny_call_entry_kw slot_list_sort ⟨_, hoL, rfl⟩ entry_list_sort (sort_pairs_tree (s := { s with heap := ((s.heap.push (seqObj "list" #[] 0)).update s.heap.objs.size (Obj.mapSeq (· ++ vs.toArray))).push (seqObj "list" vs.toArray 0) }) hoL z2 (Z_fresh z (fresh_of_lt (Nat.le_succ _))) al hl hnd h64 fun out R a1 a2 => ⟨_, rfl, ?_⟩) (args_list_sort_rev _ _)))
  exact wpAny_pure ⟨_, rfl, h out R a1 a2⟩

theorem DescL.uniq {l R R' : List V} (hl : ∀ x ∈ l, isPair x) (h : DescL l R) (h' : DescL l R') : R = R' :=
  List.Perm.eq_of_pairwise (le := fun x y => vlt y x = true) (fun a b ha hb h1 h2 => by
    have pa := hl a (h.1.mem_iff.mp ha)
    have pb := hl b (h'.1.mem_iff.mp hb)
    have := vlt_asym pb pa h1
    rw [this] at h2; cases h2) h.2 h'.2 (h.1.trans h'.1.symm)
open Classical in
noncomputable def sortD (l : List V) : List V := if h : ∃ R, DescL l R then h.choose else l
theorem sortD_eq {l R : List V} (hl : ∀ x ∈ l, isPair x) (h : DescL l R) : sortD l = R := by
  unfold sortD
  rw [dif_pos ⟨R, h⟩]
  exact DescL.uniq hl (Exists.choose_spec (⟨R, h⟩ : ∃ R, DescL l R)) h
theorem RevOk.pairs {x : V} {l : List V} (hx : x.items = some l) (hl : ∀ y ∈ l, isPair y) (hnd : l.Nodup) (h64 : l.length < 64) : RevOk c x (sortD l) := fun A s Z v hA hB r => by
  obtain ⟨a, ws, rfl, hli, al⟩ := r.isList hB.zin hx
  refine sorted_pairs_rev hli hB.zin al hl hnd (by rw [al.length]; exact h64) fun out R a1 a2 => ?_
  rw [sortD_eq hl a2]
  obtain ⟨e, he⟩ := sortedAll_at s.heap ws out
  have fr : s.heap.get? (s.heap.objs.size + 1) = none := fresh_of_lt (Nat.le_succ _)
  exact ⟨Z, Up.of (tk := s.toks) hB.zin (fun b o e => sortedAll_old e), _, out.toList, rfl, fr, Z_fresh hB.zin fr, ⟨e, by simpa using he⟩, a1⟩
end
end Mine
end
section
open PySem PyProof.Rows PySem.Calls
set_option maxRecDepth 10000
set_option linter.unusedVariables false
namespace Mine
structure Ord (lt : V → V → Bool) (S : V → Prop) : Prop where
  asym : ∀ x y, S x → S y → lt x y = true → lt y x = false
  tr : ∀ x y z, S x → S y → S z → lt x y = true → lt y z = true → lt x z = true
  ntr : ∀ x y z, S x → S y → S z → lt x y = false → lt y z = false → lt x z = false
inductive Dsc (s : Nat) : Nat → Prop
  | base : Dsc s s
  | l {p} : Dsc s p → Dsc s (2 * p + 1)
  | r {p} : Dsc s p → Dsc s (2 * p + 2)
theorem Dsc.le {s p : Nat} (h : Dsc s p) : s ≤ p := by induction h <;> omega
theorem Dsc.up {s p : Nat} (h : Dsc s p) (hp : s < p) : Dsc s ((p - 1) / 2) := by
  cases h with
  | base => omega
  | @l q h =>
    have : (2 * q + 1 - 1) / 2 = q := by omega
    rwa [this]
  | @r q h =>
    have : (2 * q + 2 - 1) / 2 = q := by omega
    rwa [this]
theorem Dsc.zero : ∀ p, Dsc 0 p := fun p => by
  induction p using Nat.strongRecOn with
  | _ p ih =>
    rcases Nat.eq_zero_or_pos p with h | h
    · subst h; exact .base
    · have := ih ((p - 1) / 2) (by omega)
      rcases Nat.mod_two_eq_zero_or_one p with h2 | h2
      · have e : p = 2 * ((p - 1) / 2) + 2 := by omega
        rw [e]; exact .r this
      · have e : p = 2 * ((p - 1) / 2) + 1 := by omega
        rw [e]; exact .l this
theorem getD_set {l : List V} {i j : Nat} {x : V} (hi : i < l.length) : (l.set i x).getD j .none = if j = i then x else l.getD j .none := by
  by_cases e : j = i
  · subst e; rw [if_pos rfl]; simp [hi]
  · rw [if_neg e]; simp [List.getElem?_set_ne (Ne.symm e)]
theorem swap_perm {l : List V} {i j : Nat} (hi : i < l.length) (hj : j < l.length) : ((l.set i (l.getD j .none)).set j (l.getD i .none)).Perm l := by
  have h := Array.swap_perm (xs := l.toArray) (i := i) (j := j) (by simpa using hi) (by simpa using hj)
  have h2 := Array.perm_iff_toList_perm.mp h
  have e1 : l.getD i .none = l[i] := by simp [hi]
  have e2 : l.getD j .none = l[j] := by simp [hj]
  rw [e1, e2]
  simpa [Array.toList_swap] using h2
/-- the heap's order, from the parents at s on -/
def HP (lt : V → V → Bool) (l : List V) (s : Nat) : Prop := ∀ i, i < l.length → 0 < i → s ≤ (i - 1) / 2 → lt (l.getD i .none) (l.getD ((i - 1) / 2) .none) = false

section
variable {lt : V → V → Bool} {S : V → Prop}
theorem sdown_perm (x : V) (s : Nat) : ∀ f l p, p < l.length → (sdown lt f l x s p).Perm (l.set p x)
  | 0, l, p, _ => List.Perm.refl _
  | f + 1, l, p, hp => by
    unfold sdown
    split
    · rename_i hs
      split
      · refine (sdown_perm x s f _ _ (by simp; omega)).trans ?_
        have hpp : (p - 1) / 2 < l.length := by omega
        have hne : (p - 1) / 2 ≠ p := by omega
        have := swap_perm (l := l.set p x) (i := p) (j := (p - 1) / 2) (by simpa using hp) (by simpa using hpp)
        rw [getD_set hp, getD_set hp, if_neg hne, if_pos rfl, List.set_set] at this
        exact this
      · exact List.Perm.refl _
    · exact List.Perm.refl _
theorem sup_perm (x : V) : ∀ f l p, p < l.length → ((sup lt f l p).1.set (sup lt f l p).2 x).Perm (l.set p x)
  | 0, l, p, _ => List.Perm.refl _
  | f + 1, l, p, hp => by
    have step : ∀ c, c < l.length → c ≠ p → ((sup lt f (l.set p (l.getD c .none)) c).1.set (sup lt f (l.set p (l.getD c .none)) c).2 x).Perm (l.set p x) := fun c hc hne => by
      refine (sup_perm x f _ c (by simpa using hc)).trans ?_
      have := swap_perm (l := l.set p x) (i := p) (j := c) (by simpa using hp) (by simpa using hc)
      rw [getD_set hp, getD_set hp, if_neg hne, if_pos rfl, List.set_set] at this
      exact this
    unfold sup
    split
    · split
      · rename_i h1 h2; exact step _ h2.1 (by omega)
      · rename_i h1 h2; exact step _ h1 (by omega)
    · exact List.Perm.refl _

theorem sdown_heap (O : Ord lt S) {x : V} (hx : S x) {s : Nat} : ∀ f l p, p < f → p < l.length → Dsc s p → (∀ y ∈ l, S y) →
    (∀ i, i < l.length → 0 < i → s ≤ (i - 1) / 2 → i ≠ p → (i - 1) / 2 ≠ p → lt (l.getD i .none) (l.getD ((i - 1) / 2) .none) = false) →
    (∀ i, i < l.length → 0 < i → (i - 1) / 2 = p → lt (l.getD i .none) x = false) →
    (s < p → ∀ i, i < l.length → 0 < i → (i - 1) / 2 = p → lt (l.getD i .none) (l.getD ((p - 1) / 2) .none) = false) → HP lt (sdown lt f l x s p) s
  | 0, l, p, hf, _, _, _, _, _, _ => by omega
  | f + 1, l, p, hf, hp, hd, hl, H1, H2, H3 => by
    unfold sdown
    have fin : (s < p → lt x (l.getD ((p - 1) / 2) .none) = false) → HP lt (l.set p x) s := fun hpar i hi h0 hsi => by
      rw [List.length_set] at hi
      rw [getD_set hp, getD_set hp]
      by_cases e : i = p
      · subst e
        rw [if_pos rfl, if_neg (by omega)]
        exact hpar (by omega)
      · rw [if_neg e]
        by_cases e2 : (i - 1) / 2 = p
        · rw [if_pos e2]; exact H2 i hi h0 e2
        · rw [if_neg e2]; exact H1 i hi h0 hsi e e2
    split
    · rename_i hs
      have hup := hd.up hs
      have hpl := hup.le
      have hpp : (p - 1) / 2 < l.length := by omega
      have Sp : S (l.getD ((p - 1) / 2) .none) := getD_S hl hpp
      split
      · rename_i hlt
        refine sdown_heap O hx f _ ((p - 1) / 2) (by omega) (by simpa using hpp) hup (mem_set_S hl Sp p) (fun i hi h0 hsi h1 h2 => ?_) (fun i hi h0 h1 => ?_) (fun hs' i hi h0 h1 => ?_)
        · rw [List.length_set] at hi
          rw [getD_set hp, getD_set hp]
          by_cases e : i = p
          · subst e; exact absurd rfl h2
          · rw [if_neg e]
            by_cases e2 : (i - 1) / 2 = p
            · rw [if_pos e2]; exact H3 hs i hi h0 e2
            · rw [if_neg e2]; exact H1 i hi h0 hsi e e2
        · rw [List.length_set] at hi
          rw [getD_set hp]
          by_cases e : i = p
          · rw [if_pos e]; exact O.asym _ _ hx Sp hlt
          · rw [if_neg e]
            have h3 := H1 i hi h0 (by omega) e (by omega)
            rw [h1] at h3
            cases h4 : lt (l.getD i .none) x with
            | false => rfl
            | true => rw [O.tr _ _ _ (getD_S hl hi) hx Sp h4 hlt] at h3; cases h3
        · rw [List.length_set] at hi
          have hd2 := (hup.up hs').le
          have h5 := H1 ((p - 1) / 2) hpp (by omega) hd2 (by omega) (by omega)
          rw [getD_set hp, getD_set hp, if_neg (show ((p - 1) / 2 - 1) / 2 ≠ p by omega)]
          by_cases e : i = p
          · rw [if_pos e]; exact h5
          · rw [if_neg e]
            have h3 := H1 i hi h0 (by omega) e (by omega)
            rw [h1] at h3
            exact O.ntr _ _ _ (getD_S hl hi) Sp (getD_S hl (by omega)) h3 h5
      · rename_i hlt
        exact fin fun _ => by simpa using hlt
    · rename_i hs
      exact fin fun h => absurd h hs

theorem sup_heap (O : Ord lt S) {s : Nat} : ∀ f l p, l.length - p ≤ f → p < l.length → Dsc s p → (∀ y ∈ l, S y) →
    (∀ i, i < l.length → 0 < i → s ≤ (i - 1) / 2 → i ≠ p → (i - 1) / 2 ≠ p → lt (l.getD i .none) (l.getD ((i - 1) / 2) .none) = false) →
    (s < p → ∀ i, i < l.length → 0 < i → (i - 1) / 2 = p → lt (l.getD i .none) (l.getD ((p - 1) / 2) .none) = false) →
    let r := sup lt f l p
    Dsc s r.2 ∧ r.1.length ≤ 2 * r.2 + 1 ∧ (∀ i, i < r.1.length → 0 < i → s ≤ (i - 1) / 2 → i ≠ r.2 → (i - 1) / 2 ≠ r.2 → lt (r.1.getD i .none) (r.1.getD ((i - 1) / 2) .none) = false)
  | 0, l, p, hf, hp, _, _, _, _ => by omega
  | f + 1, l, p, hf, hp, hd, hl, K1, K3 => by
    have step : ∀ c, c < l.length → (c - 1) / 2 = p → 0 < c → Dsc s c → (∀ i, i < l.length → 0 < i → (i - 1) / 2 = p → i ≠ c → lt (l.getD i .none) (l.getD c .none) = false) →
        let r := sup lt f (l.set p (l.getD c .none)) c
        Dsc s r.2 ∧ r.1.length ≤ 2 * r.2 + 1 ∧ (∀ i, i < r.1.length → 0 < i → s ≤ (i - 1) / 2 → i ≠ r.2 → (i - 1) / 2 ≠ r.2 → lt (r.1.getD i .none) (r.1.getD ((i - 1) / 2) .none) = false) := fun c hc hcp hc0 hdc hsib => by
      have hdp := hd.le
      refine sup_heap O f _ c (by rw [List.length_set]; omega) (by simpa using hc) hdc (mem_set_S hl (getD_S hl hc) p) (fun i hi h0 hsi h1 h2 => ?_) (fun _ i hi h0 h1 => ?_)
      · rw [List.length_set] at hi
        rw [getD_set hp, getD_set hp]
        by_cases e : i = p
        · subst e
          rw [if_pos rfl, if_neg (by omega)]
          exact K3 (by omega) c hc hc0 hcp
        · rw [if_neg e]
          by_cases e2 : (i - 1) / 2 = p
          · rw [if_pos e2]; exact hsib i hi h0 e2 h1
          · rw [if_neg e2]; exact K1 i hi h0 hsi e e2
      · rw [List.length_set] at hi
        rw [hcp, getD_set hp, getD_set hp, if_pos rfl, if_neg (by omega)]
        have := K1 i hi h0 (by omega) (by omega) (by omega)
        rwa [h1] at this
    unfold sup
    by_cases h1 : 2 * p + 1 < l.length
    · rw [if_pos h1]
      by_cases h2 : 2 * p + 2 < l.length ∧ lt (l.getD (2 * p + 1) .none) (l.getD (2 * p + 2) .none) = false
      · rw [if_pos h2]
        refine step (2 * p + 2) h2.1 (by omega) (by omega) (.r hd) fun i hi h0 hip hic => ?_
        have : i = 2 * p + 1 := by omega
        rw [this]; exact h2.2
      · rw [if_neg h2]
        refine step (2 * p + 1) h1 (by omega) (by omega) (.l hd) fun i hi h0 hip hic => ?_
        have e : i = 2 * p + 2 := by omega
        subst e
        have h3 : lt (l.getD (2 * p + 1) .none) (l.getD (2 * p + 2) .none) = true := by
          cases h : lt (l.getD (2 * p + 1) .none) (l.getD (2 * p + 2) .none) with
          | true => rfl
          | false => exact absurd ⟨hi, h⟩ h2
        exact O.asym _ _ (getD_S hl h1) (getD_S hl hi) h3
    · rw [if_neg h1]
      exact ⟨hd, by show l.length ≤ 2 * p + 1; omega, K1⟩

theorem sift_perm {l : List V} {p : Nat} (hp : p < l.length) : (sift lt l p).Perm l := by
  unfold sift
  have h1 := sup_len lt l.length l p hp
  refine (sdown_perm _ _ _ _ _ (by rw [List.length_set]; omega)).trans ?_
  rw [List.set_set]
  refine (sup_perm (l.getD p .none) l.length l p hp).trans ?_
  have : l.set p (l.getD p .none) = l := by
    have e : l.getD p .none = l[p] := by simp [hp]
    rw [e]; exact List.set_getElem_self hp
  rw [this]
theorem sift_heap (O : Ord lt S) {l : List V} {p : Nat} (hp : p < l.length) (hl : ∀ y ∈ l, S y) (h : HP lt l (p + 1)) : HP lt (sift lt l p) p := by
  have hs := sup_heap O (s := p) l.length l p (by omega) hp .base hl (fun i hi h0 hsi h1 h2 => h i hi h0 (by omega)) (fun q => by omega)
  have h1 := sup_len lt l.length l p hp
  have hS := sup_S (S := S) lt l.length l p hl hp
  unfold sift
  generalize sup lt l.length l p = r at hs h1 hS
  obtain ⟨a1, a2, a3⟩ := hs
  have hr2 : r.2 < r.1.length := by omega
  refine sdown_heap O (getD_S hl hp) _ _ r.2 (by omega) (by rw [List.length_set]; omega) a1 (mem_set_S hS (getD_S hl hp) _) (fun i hi h0 hsi h2 h3 => ?_) (fun i hi h0 h2 => ?_) (fun _ i hi h0 h2 => ?_)
  · rw [List.length_set] at hi
    rw [getD_set hr2, getD_set hr2, if_neg h2, if_neg h3]
    exact a3 i hi h0 hsi h2 h3
  · rw [List.length_set] at hi; omega
  · rw [List.length_set] at hi; omega

theorem heapify_ok (O : Ord lt S) : ∀ n l, n ≤ l.length → (∀ y ∈ l, S y) → HP lt l n → HP lt (heapify lt n l) 0 ∧ (heapify lt n l).Perm l
  | 0, l, _, _, h => ⟨h, List.Perm.refl _⟩
  | n + 1, l, hn, hl, h => by
    have h1 := sift_heap O (p := n) (by omega) hl h
    have h2 := heapify_ok O n (sift lt l n) (by rw [sift_len lt l n (by omega)]; omega) (sift_S lt l n hl (by omega)) h1
    exact ⟨h2.1, h2.2.trans (sift_perm (by omega))⟩
theorem heapify_heap (O : Ord lt S) {l : List V} (hl : ∀ y ∈ l, S y) : HP lt (heapify lt (l.length / 2) l) 0 ∧ (heapify lt (l.length / 2) l).Perm l :=
  heapify_ok O _ l (by omega) hl fun i hi h0 hsi => by omega
theorem HP.top (O : Ord lt S) {l : List V} (hl : ∀ y ∈ l, S y) (h : HP lt l 0) : ∀ i, i < l.length → lt (l.getD i .none) (l.getD 0 .none) = false := fun i => by
  induction i using Nat.strongRecOn with
  | _ i ih =>
    intro hi
    rcases Nat.eq_zero_or_pos i with h0 | h0
    · subst h0
      cases e : lt (l.getD 0 .none) (l.getD 0 .none) with
      | false => rfl
      | true => have := O.asym _ _ (getD_S hl hi) (getD_S hl hi) e; rw [e] at this; cases this
    · have h1 := h i hi h0 (Nat.zero_le _)
      have h2 := ih ((i - 1) / 2) (by omega) (by omega)
      exact O.ntr _ _ _ (getD_S hl hi) (getD_S hl (by omega)) (getD_S hl (by omega)) h1 h2
theorem pushH_ok (O : Ord lt S) {l : List V} {x : V} (hl : ∀ y ∈ l, S y) (hx : S x) (h : HP lt l 0) : HP lt (pushH lt l x) 0 ∧ (pushH lt l x).Perm (x :: l) := by
  have hS : ∀ y ∈ l ++ [x], S y := fun y hy => by
    rcases List.mem_append.mp hy with q | q
    · exact hl y q
    · simp at q; exact q ▸ hx
  have hg : ∀ i, i < l.length → (l ++ [x]).getD i .none = l.getD i .none := fun i hi => by
    simp [List.getElem?_append_left hi]
  constructor
  · refine sdown_heap O hx _ _ l.length (by omega) (by simp) (Dsc.zero _) hS (fun i hi h0 hsi h1 h2 => ?_) (fun i hi h0 h1 => ?_) (fun _ i hi h0 h1 => ?_)
    · have hi' : i < l.length := by simp at hi; omega
      rw [hg i hi', hg _ (by omega)]
      exact h i hi' h0 hsi
    · simp at hi; omega
    · simp at hi; omega
  · refine (sdown_perm x 0 _ _ l.length (by simp)).trans ?_
    have : (l ++ [x]).set l.length x = l ++ [x] := by simp
    rw [this]
    exact List.perm_append_comm
/-- what heappop leaves -/
theorem popH_ok (O : Ord lt S) {m : List V} {z : V} (hl : ∀ y ∈ m, S y) (hz : S z) (h : HP lt (m ++ [z]) 0) : HP lt (popH lt m z) 0 ∧ ((m ++ [z]).getD 0 .none :: popH lt m z).Perm (m ++ [z]) := by
  cases m with
  | nil => exact ⟨fun i hi => by simp [popH] at hi, List.Perm.refl _⟩
  | cons y r =>
    have hS : ∀ x ∈ z :: r, S x := fun x hx => by
      rcases List.mem_cons.mp hx with q | q
      · exact q ▸ hz
      · exact hl x (by simp [q])
    have hg : ∀ i, i < (y :: r).length → (y :: r ++ [z]).getD i .none = (y :: r).getD i .none := fun i hi => by
      rw [List.getD_eq_getElem?_getD, List.getD_eq_getElem?_getD, List.getElem?_append_left hi]
    refine ⟨sift_heap O (p := 0) (by simp) hS fun i hi h0 hsi => ?_, ?_⟩
    · have e : ∀ j, 0 < j → (z :: r).getD j .none = (y :: r).getD j .none := fun j hj => by
        obtain ⟨k, rfl⟩ : ∃ k, j = k + 1 := ⟨j - 1, by omega⟩
        simp
      have hi' : i < (y :: r).length := by simpa using hi
      rw [e i h0, e _ (by omega), ← hg i hi', ← hg _ (by omega)]
      exact h i (by simp at hi'; simp; omega) h0 (Nat.zero_le _)
    · show (y :: sift lt (z :: r) 0).Perm _
      refine (List.Perm.cons y (sift_perm (by simp))).trans ?_
      refine List.Perm.cons y ?_
      show (z :: r).Perm (r ++ [z])
      exact List.perm_append_comm (l₁ := [z])
end
end Mine
end
section
open PySem PyProof.Rows PySem.Calls
set_option maxRecDepth 10000
set_option linter.unusedVariables false
namespace Mine
theorem ordPairGt : Ord vgt isPair where
  asym := fun x y hx hy h => vlt_asym hy hx h
  tr := fun x y z hx hy hz h1 h2 => vlt_tr hz hy hx h2 h1
  ntr := fun x y z hx hy hz h1 h2 => by
    obtain ⟨a, b, rfl⟩ := hx; obtain ⟨a', b', rfl⟩ := hy; obtain ⟨a'', b'', rfl⟩ := hz
    unfold vgt at *
    rw [vlt_pair] at *
    split at h1 <;> split at h2 <;> split <;> simp at * <;> omega
theorem sig14 : Sig (fdef 14) ["ties", "labels"] := Sig.of (by decide +kernel) fun pm code doc vs h => by
  match vs, h with
  | [a, b], _ => rfl
def cnt (rem : List (Nat × Nat)) (v : Nat) : Nat := (rem.filter fun p => p.2 == v).length
def remL (D : List Nat) (ts : List (Nat × Nat)) : List (Nat × Nat) := ts.filter fun p => !D.contains p.1
def readyL (ts : List (Nat × Nat)) (D : List Nat) : List Nat := (List.range 7).filter fun v => !D.contains v && cnt (remL D ts) v == 0
def TopTwo (lab : Nat → Nat) (R h : List Nat) : Prop := ∃ R' : List Nat, R'.Perm R ∧ R'.Pairwise (fun x y => lab y < lab x) ∧ h = R'.take 2
/-- the hours: at each the two with the greatest labels of those that are ready -/
structure Run (ts : List (Nat × Nat)) (lab : Nat → Nat) (hs : List (List Nat)) : Prop where
  top : ∀ (i : Nat) h, hs[i]? = some h → TopTwo lab (readyL ts (hs.take i).flatten) h
  ne : ∀ (i : Nat) h, hs[i]? = some h → readyL ts (hs.take i).flatten ≠ []
  fin : readyL ts hs.flatten = []
def pr (lab : Nat → Nat) (v : Nat) : V := .pair (lab v : Nat) (v : Nat)
theorem cnt_append (X Y : List (Nat × Nat)) (v : Nat) : cnt (X ++ Y) v = cnt X v + cnt Y v := by simp [cnt]
theorem cnt_cons (p : Nat × Nat) (Y : List (Nat × Nat)) (v : Nat) : cnt (p :: Y) v = (if p.2 = v then 1 else 0) + cnt Y v := by
  unfold cnt
  rw [List.filter_cons]
  by_cases h : p.2 = v
  · simp [h]; omega
  · simp [h]
theorem filter_same {α : Type} {P P' : α → Bool} {l : List α} (h : ∀ x ∈ l, P x = P' x) : l.filter P = l.filter P' := List.filter_congr h
/-- one more passes the test -/
theorem filter_add {P P' : Nat → Bool} {b : Nat} : ∀ {l : List Nat}, l.Nodup → b ∈ l → P b = false → P' b = true → (∀ x ∈ l, x ≠ b → P x = P' x) → (l.filter P').Perm (b :: l.filter P)
  | [], _, hb, _, _, _ => by simp at hb
  | x :: r, hd, hb, h1, h2, h3 => by
    obtain ⟨hx, hr⟩ := List.nodup_cons.mp hd
    by_cases e : x = b
    · subst e
      rw [List.filter_cons, List.filter_cons, h1, h2]
      simp only [if_true, Bool.false_eq_true, if_false]
      rw [filter_same (P := P') (P' := P) fun y hy => (h3 y (by simp [hy]) fun q => hx (q ▸ hy)).symm]
    · have hb' : b ∈ r := (List.mem_cons.mp hb).resolve_left (Ne.symm e)
      have ih := filter_add (l := r) hr hb' h1 h2 fun y hy => h3 y (by simp [hy])
      rw [List.filter_cons, List.filter_cons, h3 x (by simp) e]
      cases P' x with
      | true => exact (List.Perm.cons x ih).trans (List.Perm.swap b x _)
      | false => exact ih
/-- the ready ones, by their labels from the greatest on -/
theorem sorted_lab (lab : Nat → Nat) (R : List Nat) (hinj : ∀ x ∈ R, ∀ y ∈ R, lab x = lab y → x = y) (hnd : R.Nodup) : ∃ R' : List Nat, R'.Perm R ∧ R'.Pairwise (fun x y => lab y < lab x) := by
  refine ⟨R.mergeSort (fun x y => decide (lab y ≤ lab x)), List.mergeSort_perm _ _, ?_⟩
  have h1 := List.pairwise_mergeSort (le := fun x y : Nat => decide (lab y ≤ lab x)) (fun a b c h1 h2 => by simp at *; omega) (fun a b => by simp; omega) R
  have hnd' : (R.mergeSort (fun x y => decide (lab y ≤ lab x))).Nodup := (List.mergeSort_perm R _).nodup_iff.mpr hnd
  have h2 : (R.mergeSort (fun x y => decide (lab y ≤ lab x))).Pairwise (fun x y => x ≠ y) := hnd'
  have h3 := h1.and h2
  refine List.Pairwise.imp_of_mem (fun {a b} ha hb h => ?_) h3
  have hle : lab b ≤ lab a := by simpa using h.1
  rcases Nat.lt_or_ge (lab b) (lab a) with q | q
  · exact q
  · exact absurd (hinj a ((List.mergeSort_perm R _).mem_iff.mp ha) b ((List.mergeSort_perm R _).mem_iff.mp hb) (by omega)) h.2
theorem desc_of {lab : Nat → Nat} {R R' : List Nat} {l : List V} (hp : R'.Perm R) (hs : R'.Pairwise (fun x y => lab y < lab x)) (hl : l.Perm (R.map (pr lab))) : DescL l (R'.map (pr lab)) := by
  refine ⟨(hp.map _).trans hl.symm, ?_⟩
  rw [List.pairwise_map]
  refine hs.imp fun {a b} h => ?_
  unfold pr
  rw [vlt_pair, if_neg (by omega)]
  simpa using h
end Mine
end
section
open PySem PyProof.Rows PySem.Calls
set_option maxRecDepth 10000
set_option linter.unusedVariables false
namespace Mine
structure Ties (ts : List (Nat × Nat)) : Prop where
  lt : ∀ p ∈ ts, p.1 < 7 ∧ p.2 < 7
  len : ts.length ≤ 49
  irr : ∀ p ∈ ts, p.1 ≠ p.2
theorem isPair_pr (lab : Nat → Nat) (v : Nat) : isPair (pr lab v) := ⟨_, _, rfl⟩
theorem all_pr {lab : Nat → Nat} {R : List Nat} {l : List V} (h : l.Perm (R.map (pr lab))) : ∀ y ∈ l, isPair y := fun y hy => by
  obtain ⟨v, _, rfl⟩ := List.mem_map.mp (h.mem_iff.mp hy)
  exact isPair_pr lab v
/-- the greatest of a heap -/
theorem heap_top {lab : Nat → Nat} {r : Nat} {R : List Nat} {l : List V} (hp : l.Perm ((r :: R).map (pr lab))) (hh : HP vgt l 0) (hs : ∀ x ∈ R, lab x < lab r) : l.getD 0 .none = pr lab r := by
  have hl := all_pr hp
  have h0 : 0 < l.length := by rw [hp.length_eq]; simp
  have hm : l.getD 0 .none ∈ (r :: R).map (pr lab) := hp.mem_iff.mp (by simp [h0])
  obtain ⟨v, hv, e⟩ := List.mem_map.mp hm
  rcases List.mem_cons.mp hv with h | h
  · rw [← e, h]
  · exfalso
    have hr : pr lab r ∈ l := hp.mem_iff.mpr (by simp)
    obtain ⟨i, hi, he⟩ := List.mem_iff_getElem.mp hr
    have h1 := HP.top ordPairGt hl hh i hi
    have e2 : l.getD i .none = pr lab r := by simp [hi, he]
    rw [e2, ← e] at h1
    unfold vgt pr at h1
    have := hs v h
    rw [vlt_pair, if_neg (by omega)] at h1
    simp at h1; omega
def LoopS (ts : List (Nat × Nat)) (lab : Nat → Nat) (hs : List (List Nat)) (l : List V) : Prop :=
  HP vgt l 0 ∧ l.Perm ((readyL ts hs.flatten).map (pr lab)) ∧ hs.flatten.Nodup ∧ (∀ v ∈ hs.flatten, v < 7) ∧ (∀ v ∈ hs.flatten, cnt (remL hs.flatten ts) v = 0) ∧
    ∀ (i : Nat) h, hs[i]? = some h → TopTwo lab (readyL ts (hs.take i).flatten) h ∧ readyL ts (hs.take i).flatten ≠ []
theorem readyL_nd (ts D) : (readyL ts D).Nodup := List.Pairwise.filter _ List.nodup_range
theorem readyL_mem {ts D v} : v ∈ readyL ts D ↔ v < 7 ∧ v ∉ D ∧ cnt (remL D ts) v = 0 := by
  unfold readyL
  rw [List.mem_filter, List.mem_range]
  simp
theorem bindP (x y : Str) (px py pp : Pos) (kk) (p : Nat × Nat) : bindT (.Tuple [.Name x px, .Name y py] kk pp) (pV p) = some [(y, .int (p.2 : Nat)), (x, .int (p.1 : Nat))] := rfl
def B14 (ts : List (Nat × Nat)) (lab : Nat → Nat) (an ao : Addr) (g : Nat → Int) (hs : List (List Nat)) : Rho :=
  [("hours", .list ao (hs.map hourV)), ("needs", .list an (tabI g)), ("labels", .fl (tabI fun v => (lab v : Int))), ("ties", .fl (ts.map pV))]
theorem sub14 {ts lab an ao g hs} {ρ : Rho} (h1 : ρ.lookup ("hours" : Str) = some (.list ao (hs.map hourV))) (h2 : ρ.lookup ("needs" : Str) = some (.list an (tabI g))) (h3 : ρ.lookup ("labels" : Str) = some (.fl (tabI fun v => (lab v : Int)))) (h4 : ρ.lookup ("ties" : Str) = some (.fl (ts.map pV))) : Sub (B14 ts lab an ao g hs) ρ :=
  .cons h1 (.cons h2 (.cons h3 (.cons h4 .nil)))
/-- two out of the heap, greatest first -/
theorem w14pop {c : Cx} (G : Ground c) {ts : List (Nat × Nat)} {lab : Nat → Nat} {an ao ah : Addr} {g : Nat → Int} {hs : List (List Nat)} {R' : List Nat} {l : List V} {P : Fl → Rho → Prop} {it : Expr} {pos : Pos} (hsort : R'.Pairwise (fun x y => lab y < lab x)) (hR : R'.length ≤ 7)
    (hh : HP vgt l 0) (hp : l.Perm (R'.map (pr lab))) (hend : ∀ l' ρ', HP vgt l' 0 → l'.Perm ((R'.drop 2).map (pr lab)) → Sub (("heap", .list ah l') :: ("due", .fl ((R'.take 2).map (pr lab))) :: B14 ts lab an ao g hs) ρ' → P .nrm ρ') :
    WS c 3 (fdef 14).scope (match (inner (fdef 14).body 4)[1]? with | some st => st | none => .Pass pos) (("due", .fl ((R'.take 2).map (pr lab))) :: ("heap", .list ah l) :: B14 ts lab an ao g hs) P := by
  refine WS.for_ (xs := (R'.take 2).map (pr lab)) (fun i ρ' => ∃ l', Sub (("heap", .list ah l') :: ("due", .fl ((R'.take 2).map (pr lab))) :: B14 ts lab an ao g hs) ρ' ∧ HP vgt l' 0 ∧ l'.Perm ((R'.drop i).map (pr lab)))
    (Ev.yields_fl (Ev.v rfl)) (stT (by rfl)) ⟨l, .cons rfl (.cons rfl (sub14 rfl rfl rfl rfl)), hh, hp⟩ ?_ ?_
  · rintro i x ρ' hx ⟨l', hsub, hh', hp'⟩
    have hi : i < (R'.take 2).length := by have := (List.getElem?_eq_some_iff.mp hx).1; simpa using this
    have hi' : i < R'.length := by rw [List.length_take] at hi; omega
    have hxe : x = pr lab R'[i] := by
      rw [List.getElem?_map, List.getElem?_eq_getElem hi] at hx
      simp at hx; exact hx.symm
    subst hxe
    have hdrop : R'.drop i = R'[i] :: R'.drop (i + 1) := List.drop_eq_getElem_cons hi'
    generalize R'[i] = r at hdrop
    have hlr : ∀ x ∈ R'.drop (i + 1), lab x < lab r := by
      have h1 : (R'.drop i).Pairwise (fun x y => lab y < lab x) := hsort.sublist (List.drop_sublist i R')
      rw [hdrop] at h1
      exact (List.pairwise_cons.mp h1).1
    rw [hdrop] at hp'
    have htop := heap_top hp' hh' hlr
    have hl' := all_pr hp'
    obtain ⟨m, z, rfl⟩ : ∃ m z, l' = m ++ [z] := by
      rcases List.eq_nil_or_concat l' with h | ⟨m, z, h⟩
      · subst h; have := hp'.length_eq; simp at this
      · exact ⟨m, z, by simpa using h⟩
    have hml : m.length ≤ 2 ^ 17 := by
      have := hp'.length_eq
      have h2 : (R'.drop (i + 1)).length ≤ 7 := by rw [List.length_drop]; omega
      simp at this; simp at h2; omega
    refine ⟨rfl, _, rfl, ?_⟩
    refine Wp.sub (ρ' := ("item", pr lab r) :: ("heap", .list ah (m ++ [z])) :: ("due", .fl ((R'.take 2).map (pr lab))) :: B14 ts lab an ao g hs) (.cons rfl (.cons (hsub _ _ rfl) (.cons (hsub _ _ rfl) (sub14 (hsub _ _ rfl) (hsub _ _ rfl) (hsub _ _ rfl) (hsub _ _ rfl))))) ?_
    refine Wp.seq (WS.ifEx (Ex.callO (b := ah) (l := m ++ [z]) (rest := []) G.ok rfl (G.fn 3 (by simp)) rfl rfl (.inl rfl) EvA.nil (w3 G cmpPair (fun y hy => hl' y (by simp [hy])) (hl' z (by simp)) hml)) ?_)
    rintro x ρ'' ⟨l'', ⟨rfl, rfl⟩, rfl⟩
    rw [htop]
    refine ⟨pr lab r, false, Ev.v rfl rfl (by simp [pr]), ?_, fun h => (by cases h), fun _ => Wp.nil (wn (Wp.nil ?_))⟩
    · have : vEq (pr lab r) (pr lab r) = some true := by simp [pr, vEq]
      exact CmpOk.eq this
    · have hpop := popH_ok ordPairGt (m := m) (z := z) (fun y hy => hl' y (by simp [hy])) (hl' z (by simp)) hh'
      refine ⟨_, .cons rfl (.cons rfl (sub14 rfl rfl rfl rfl)), hpop.1, ?_⟩
      have := hpop.2.trans hp'
      rw [htop] at this
      exact List.Perm.cons_inv this
  · rintro ρ' ⟨l', hsub, hh', hp'⟩
    refine hend l' ρ' hh' ?_ hsub
    have : R'.drop ((R'.take 2).map (pr lab)).length = R'.drop 2 := by
      rw [List.length_map, List.length_take]
      by_cases h : R'.length ≤ 2
      · rw [Nat.min_eq_right h, List.drop_length, List.drop_eq_nil_of_le h]
      · rw [Nat.min_eq_left (by omega)]
    rw [this] at hp'
    exact hp'
end Mine
end
section
open PySem PyProof.Rows PySem.Calls
set_option maxRecDepth 10000
set_option linter.unusedVariables false
set_option linter.unusedSimpArgs false
namespace Mine
/-- the ties not yet counted off, in the midst of a's -/
def remJ (D : List Nat) (a : Nat) (ts : List (Nat × Nat)) (j : Nat) : List (Nat × Nat) := remL (D ++ [a]) (ts.take j) ++ remL D (ts.drop j)
theorem remJ_zero (D a ts) : remJ D a ts 0 = remL D ts := by simp [remJ, remL]
theorem remJ_end (D a ts) : remJ D a ts ts.length = remL (D ++ [a]) ts := by simp [remJ, remL]
theorem cnt_step {D : List Nat} {a j : Nat} {ts : List (Nat × Nat)} {p : Nat × Nat} (ha : a ∉ D) (hp : ts[j]? = some p) (v : Nat) : cnt (remJ D a ts j) v = cnt (remJ D a ts (j + 1)) v + if p.1 = a ∧ p.2 = v then 1 else 0 := by
  have hj : j < ts.length := (List.getElem?_eq_some_iff.mp hp).1
  have e1 : ts.take (j + 1) = ts.take j ++ [p] := by rw [List.take_add_one, hp]; rfl
  have e2 : ts.drop j = p :: ts.drop (j + 1) := by
    have := List.drop_eq_getElem_cons hj
    rw [(List.getElem?_eq_some_iff.mp hp).2] at this; exact this
  unfold remJ
  rw [cnt_append, cnt_append, e1, e2]
  have e3 : remL (D ++ [a]) (ts.take j ++ [p]) = remL (D ++ [a]) (ts.take j) ++ remL (D ++ [a]) [p] := by simp [remL]
  have e4 : remL D (p :: ts.drop (j + 1)) = remL D [p] ++ remL D (ts.drop (j + 1)) := by simp [remL, List.filter_cons]; split <;> simp
  rw [e3, e4, cnt_append, cnt_append]
  have key : cnt (remL D [p]) v = cnt (remL (D ++ [a]) [p]) v + if p.1 = a ∧ p.2 = v then 1 else 0 := by
    unfold remL
    by_cases h1 : p.1 = a
    · have h2 : p.1 ∉ D := h1 ▸ ha
      rw [List.filter_cons, List.filter_cons]
      simp only [List.contains_iff_mem, List.mem_append, List.mem_singleton, h1, ha, or_true, List.filter_nil]
      by_cases h3 : p.2 = v <;> simp [cnt, h3, ha]
    · rw [List.filter_cons, List.filter_cons]
      have : (D ++ [a]).contains p.1 = D.contains p.1 := by
        rw [Bool.eq_iff_iff]; simp [h1]
      rw [this]
      simp [h1]
  omega
theorem tabI_congr {g g' : Nat → Int} (h : ∀ v, v < 7 → g v = g' v) : tabI g = tabI g' := by
  unfold tabI
  apply List.map_congr_left
  intro v hv
  rw [h v (by simpa using hv)]
/-- what stands while the ties of the hour's works are counted off -/
def Off (ts : List (Nat × Nat)) (lab : Nat → Nat) (B : List Nat) (rem : List (Nat × Nat)) (l : List V) : Prop :=
  HP vgt l 0 ∧ l.Perm (((List.range 7).filter fun v => !B.contains v && cnt rem v == 0).map (pr lab)) ∧ ∀ v ∈ B, cnt rem v = 0
theorem Off.len {ts lab B rem l} (h : Off ts lab B rem l) : l.length ≤ 7 := by
  rw [h.2.1.length_eq, List.length_map]
  have := List.length_filter_le (fun v => !B.contains v && cnt rem v == 0) (List.range 7)
  simpa using this
theorem Off.same {ts lab B rem rem' l} (h : Off ts lab B rem l) (e : ∀ v, (cnt rem v = 0 ↔ cnt rem' v = 0)) : Off ts lab B rem' l := by
  refine ⟨h.1, ?_, fun v hv => (e v).mp (h.2.2 v hv)⟩
  rw [show ((List.range 7).filter fun v => !B.contains v && cnt rem' v == 0) = ((List.range 7).filter fun v => !B.contains v && cnt rem v == 0) from filter_same fun v _ => by
    have := e v
    congr 1
    rw [Bool.eq_iff_iff]; simp [this]]
  exact h.2.1
theorem Off.push {ts lab B rem rem' l} {b : Nat} (h : Off ts lab B rem l) (hb : b < 7) (h1 : cnt rem b = 1) (h0 : cnt rem' b = 0) (e : ∀ v, v ≠ b → cnt rem v = cnt rem' v) : Off ts lab B rem' (pushH vgt l (pr lab b)) := by
  have hnB : b ∉ B := fun q => by have := h.2.2 b q; omega
  have hp := pushH_ok ordPairGt (x := pr lab b) (all_pr h.2.1) (isPair_pr lab b) h.1
  refine ⟨hp.1, hp.2.trans ?_, fun v hv => ?_⟩
  · have := filter_add (P := fun v => !B.contains v && cnt rem v == 0) (P' := fun v => !B.contains v && cnt rem' v == 0) (b := b) (l := List.range 7) List.nodup_range (by simpa using hb) (by simp [h1]) (by simp [h0, hnB]) (fun x _ hx => by rw [e x hx])
    exact ((List.Perm.cons _ h.2.1).trans ((this.map (pr lab)).symm))
  · by_cases q : v = b
    · rw [q]; exact h0
    · rw [← e v q]; exact h.2.2 v hv

theorem w14off {c : Cx} (G : Ground c) {ts : List (Nat × Nat)} {lab : Nat → Nat} (hts : Ties ts) {an ao ah : Addr} {hs : List (List Nat)} {D h : List Nat} {l : List V} {P : Fl → Rho → Prop} {pos : Pos} (hB : (D ++ h).Nodup) (hh7 : ∀ v ∈ h, v < 7)
    (hl : Off ts lab (D ++ h) (remL D ts) l) (hend : ∀ l' ρ', Off ts lab (D ++ h) (remL (D ++ h) ts) l' → Sub (("heap", .list ah l') :: B14 ts lab an ao (fun v => (cnt (remL (D ++ h) ts) v : Int)) hs) ρ' → P .nrm ρ') :
    WS c 3 (fdef 14).scope (match (inner (fdef 14).body 4)[3]? with | some st => st | none => .Pass pos) (("due", .fl (h.map (pr lab))) :: ("heap", .list ah l) :: B14 ts lab an ao (fun v => (cnt (remL D ts) v : Int)) hs) P := by
  refine WS.for_ (xs := h.map (pr lab)) (fun i ρ' => ∃ l', Sub (("heap", .list ah l') :: B14 ts lab an ao (fun v => (cnt (remL (D ++ h.take i) ts) v : Int)) hs) ρ' ∧ Off ts lab (D ++ h) (remL (D ++ h.take i) ts) l')
    (Ev.yields_fl (Ev.v rfl)) (stT (by rfl)) ⟨l, by simp only [List.take_zero, List.append_nil]; exact .cons rfl (sub14 rfl rfl rfl rfl), by simpa using hl⟩ ?_ ?_
  · rintro i x ρ' hx ⟨l1, hsub, hoff⟩
    have hi : i < h.length := by have := (List.getElem?_eq_some_iff.mp hx).1; simpa using this
    generalize ha : h[i] = a
    have hxe : x = pr lab a := by
      rw [List.getElem?_map, List.getElem?_eq_getElem hi, ha] at hx
      simpa using hx.symm
    subst hxe
    have htk : h.take (i + 1) = h.take i ++ [a] := by rw [List.take_add_one, List.getElem?_eq_getElem hi, ha]; rfl
    have haD : a ∉ D ++ h.take i := fun q => by
      have hsp : h = h.take i ++ a :: h.drop (i + 1) := by
        have := List.take_append_drop i h
        rw [List.drop_eq_getElem_cons hi, ha] at this
        exact this.symm
      rw [hsp, ← List.append_assoc] at hB
      exact (List.nodup_append.mp hB).2.2 a q a (by simp) rfl
    generalize hDi : D ++ h.take i = Di at *
    refine ⟨rfl, _, rfl, ?_⟩
    refine Wp.sub (ρ' := ("item", pr lab a) :: ("heap", .list ah l1) :: B14 ts lab an ao (fun v => (cnt (remL Di ts) v : Int)) hs) (.cons rfl (.cons (hsub _ _ rfl) (sub14 (hsub _ _ rfl) (hsub _ _ rfl) (hsub _ _ rfl) (hsub _ _ rfl)))) ?_
    refine Wp.seq (WS.for_ (xs := ts.map pV) (fun j ρ' => ∃ l', Sub (("item", pr lab a) :: ("heap", .list ah l') :: B14 ts lab an ao (fun v => (cnt (remJ Di a ts j) v : Int)) hs) ρ' ∧ Off ts lab (D ++ h) (remJ Di a ts j) l')
      (Ev.yields_fl (Ev.v rfl)) (stT (by rfl)) ⟨l1, by rw [remJ_zero]; exact .cons rfl (.cons rfl (sub14 rfl rfl rfl rfl)), by rw [remJ_zero]; exact hoff⟩ ?_ ?_)
    · rintro j x ρ' hx ⟨l2, hsub, hoff⟩
      have hj : j < ts.length := by have := (List.getElem?_eq_some_iff.mp hx).1; simpa using this
      have hpj : ts[j]? = some ts[j] := by simp [hj]
      generalize ts[j] = p at hpj
      have hxe : x = pV p := by
        rw [List.getElem?_map, hpj] at hx
        simpa using hx.symm
      subst hxe
      obtain ⟨hp1, hp2⟩ := hts.lt p (List.mem_of_getElem? hpj)
      have hstep := cnt_step (ts := ts) haD hpj
      have hlen := hoff.len
      refine ⟨rfl, _, bindP _ _ _ _ _ _ p, ?_⟩
      refine Wp.sub (ρ' := ("b", .int (p.2 : Nat)) :: ("a", .int (p.1 : Nat)) :: ("item", pr lab a) :: ("heap", .list ah l2) :: B14 ts lab an ao (fun v => (cnt (remJ Di a ts j) v : Int)) hs) (.cons rfl (.cons rfl (.cons (hsub _ _ rfl) (.cons (hsub _ _ rfl) (sub14 (hsub _ _ rfl) (hsub _ _ rfl) (hsub _ _ rfl) (hsub _ _ rfl)))))) ?_
      refine Wp.seq (WS.if_ (b := p.1 == a) (Tst.cast (by rw [Bool.eq_iff_iff]; simp only [beq_iff_eq]; omega) (Tst.cmp (Ev.v rfl) (Ev.subT (a := lab a) (b := a) (r := a) (Ev.v rfl rfl (by simp)) (Ev.int 1 _) (.inr ⟨rfl, rfl⟩)) (CmpOk.ieq _ _))) (fun hpa => ?_) (fun hpa => Wp.nil (wn (Wp.nil ?_))))
      · have hpa' : p.1 = a := by simpa using hpa
        have hs1 : ∀ v, v ≠ p.2 → cnt (remJ Di a ts j) v = cnt (remJ Di a ts (j + 1)) v := fun v hv => by
          rw [hstep v, if_neg (fun q => hv q.2.symm)]; rfl
        have hs2 : cnt (remJ Di a ts j) p.2 = cnt (remJ Di a ts (j + 1)) p.2 + 1 := by rw [hstep p.2, if_pos ⟨hpa', rfl⟩]
        refine Wp.seq (WS.setL (n := p.2) (a := an) (l := tabI fun v => (cnt (remJ Di a ts j) v : Int)) (y := .int (cnt (remJ Di a ts (j + 1)) p.2 : Nat)) rfl (.inr rfl)
          (Ev.cast (by rw [hs2]; push_cast; omega) (Ev.iop (Ev.subL (n := p.2) (y := .int (cnt (remJ Di a ts j) p.2 : Nat)) (Ev.v (V := .list an (tabI fun v => (cnt (remJ Di a ts j) v : Int))) rfl) (Ev.v rfl) rfl rfl (tabI_at hp2) (by rw [tabI_len]; omega)) (Ev.int 1 _) (IntOp.sub _ _)))
          (Ev.v rfl) rfl (by rw [tabI_len]; exact hp2) (by rw [tabI_len]; omega) rfl (by simp) (wn ?_))
        rw [tabI_set hp2, tabI_congr (g' := fun v => (cnt (remJ Di a ts (j + 1)) v : Int)) (fun v hv => by
          by_cases e : v = p.2
          · rw [if_pos e, e]
          · rw [if_neg e, hs1 v e])]
        refine Wp.sub (ρ' := ("b", .int (p.2 : Nat)) :: ("item", pr lab a) :: ("heap", .list ah l2) :: B14 ts lab an ao (fun v => (cnt (remJ Di a ts (j + 1)) v : Int)) hs) (.cons rfl (.cons rfl (.cons rfl (sub14 rfl rfl rfl rfl)))) ?_
        refine Wp.seq (WS.if_ (b := cnt (remJ Di a ts (j + 1)) p.2 == 0) (Tst.cast (by rw [Bool.eq_iff_iff]; simp only [beq_iff_eq]; omega) (Tst.cmp (Ev.subL (n := p.2) (y := .int (cnt (remJ Di a ts (j + 1)) p.2 : Nat)) (Ev.v (V := .list an (tabI fun v => (cnt (remJ Di a ts (j + 1)) v : Int))) rfl) (Ev.v rfl) rfl rfl (tabI_at hp2) (by rw [tabI_len]; omega)) (Ev.int 0 _) (CmpOk.ieq _ _))) (fun hz => ?_) (fun hz => Wp.nil (wn (Wp.nil (wn (Wp.nil ?_))))))
        · have hz' : cnt (remJ Di a ts (j + 1)) p.2 = 0 := by simpa using hz
          have hpush := hoff.push hp2 (by rw [hs2, hz']) hz' hs1
          refine Wp.seq (WS.append (a := ah) (l := l2) (y := pr lab p.2) rfl (.inl rfl) (Ev.pair (Ev.subL (n := p.2) (y := .int (lab p.2 : Nat)) (Ev.v (V := .fl (tabI fun v => (lab v : Int))) rfl) (Ev.v rfl) rfl rfl (tabI_at hp2) (by rw [tabI_len]; omega)) (Ev.v rfl)) rfl (by simp [pr]) (by omega) (wn ?_))
          have e1 : ((l2 ++ [pr lab p.2]).length : Int) - 1 = (l2.length : Int) := by simp
          refine Wp.seq (WS.ifEx (Ex.callO (b := ah) (l := l2 ++ [pr lab p.2]) (rest := [.int (0 : Nat), .int l2.length]) G.ok rfl (G.fn 7 (by simp)) rfl rfl (.inl rfl)
            (EvA.cons (Ev.int 0 _) (EvA.cons (Ev.cast e1 (Ev.iop (Ev.len G (Ev.v (V := .list ah (l2 ++ [pr lab p.2])) rfl) rfl (by simp; omega)) (Ev.int 1 _) (IntOp.sub _ _))) EvA.nil)) (OwnFn.up (w7 G cmpPair (fun z hz => ?_) (by simp) (by simp; omega)))) ?_)
          · rcases List.mem_append.mp hz with q | q
            · exact all_pr hoff.2.1 z q
            · simp at q; exact q ▸ isPair_pr lab p.2
          rintro v ρ'' ⟨l'', ⟨rfl, rfl⟩, rfl⟩
          refine ⟨.none, false, Ev.none _, CmpOk.isNot_none (by simp), fun h => (by cases h), fun _ => Wp.nil (wn (Wp.nil (wn (Wp.nil (wn (Wp.nil ?_))))))⟩
          refine ⟨pushH vgt l2 (pr lab p.2), .cons rfl (.cons ?_ (sub14 rfl rfl rfl rfl)), hpush⟩
          have : (l2 ++ [pr lab p.2]).getD l2.length .none = pr lab p.2 := by simp
          rw [this]; rfl
        · refine ⟨l2, .cons rfl (.cons rfl (sub14 rfl rfl rfl rfl)), hoff.same fun v => ?_⟩
          by_cases e : v = p.2
          · rw [e, hs2]
            have : cnt (remJ Di a ts (j + 1)) p.2 ≠ 0 := by simpa using hz
            omega
          · rw [hs1 v e]
      · have hpa' : p.1 ≠ a := by simpa using hpa
        have hs1 : ∀ v, cnt (remJ Di a ts j) v = cnt (remJ Di a ts (j + 1)) v := fun v => by
          rw [hstep v, if_neg (fun q => hpa' q.1)]; rfl
        have e : (fun v => (cnt (remJ Di a ts j) v : Int)) = fun v => (cnt (remJ Di a ts (j + 1)) v : Int) := by funext v; rw [hs1 v]
        refine ⟨l2, by rw [← e]; exact .cons rfl (.cons rfl (sub14 rfl rfl rfl rfl)), hoff.same fun v => by rw [hs1 v]⟩
    · rintro ρ' ⟨l2, hsub, hoff⟩
      rw [List.length_map, remJ_end] at *
      have e : D ++ h.take (i + 1) = Di ++ [a] := by rw [htk, ← List.append_assoc, hDi]
      refine wn (Wp.nil ⟨l2, ?_, ?_⟩)
      · rw [e]; exact .cons (hsub _ _ rfl) (sub14 (hsub _ _ rfl) (hsub _ _ rfl) (hsub _ _ rfl) (hsub _ _ rfl))
      · rw [e]; exact hoff
  · rintro ρ' ⟨l', hsub, hoff⟩
    have e : h.take (h.map (pr lab)).length = h := by simp
    rw [e] at hsub hoff
    exact hend l' ρ' hoff hsub
end Mine
end
section
open PySem PyProof.Rows PySem.Calls
set_option maxRecDepth 10000
set_option linter.unusedVariables false
namespace Mine
theorem off_ready {ts : List (Nat × Nat)} {lab : Nat → Nat} {D : List Nat} {l : List V} (h : Off ts lab D (remL D ts) l) : HP vgt l 0 ∧ l.Perm ((readyL ts D).map (pr lab)) ∧ ∀ v ∈ D, cnt (remL D ts) v = 0 := h
theorem cnt_mono {D E : List Nat} {ts : List (Nat × Nat)} (h : ∀ x ∈ D, x ∈ E) (v : Nat) : cnt (remL E ts) v ≤ cnt (remL D ts) v := by
  unfold cnt remL
  rw [List.filter_filter, List.filter_filter]
  have : ∀ l : List (Nat × Nat), (l.filter fun p => p.2 == v && !E.contains p.1).length ≤ (l.filter fun p => p.2 == v && !D.contains p.1).length := fun l => by
    induction l with
    | nil => simp
    | cons p r ih =>
      rw [List.filter_cons, List.filter_cons]
      by_cases h1 : (p.2 == v && !E.contains p.1) = true
      · have h2 : (p.2 == v && !D.contains p.1) = true := by
          simp only [Bool.and_eq_true, Bool.not_eq_true'] at h1 ⊢
          refine ⟨h1.1, ?_⟩
          cases e : D.contains p.1 with
          | false => rfl
          | true =>
            have := List.contains_iff_mem.mp e
            have := List.contains_iff_mem.mpr (h _ this)
            rw [this] at h1; exact absurd h1.2 (by simp)
        rw [if_pos h1, if_pos h2]; simpa using ih
      · rw [if_neg h1]
        split
        · rw [List.length_cons]; exact Nat.le_succ_of_le ih
        · exact ih
  exact this ts
set_option maxHeartbeats 1000000 in
theorem w14 {c : Cx} (G : Ground c) {ts : List (Nat × Nat)} {lab : Nat → Nat} (hts : Ties ts) (hinj : ∀ x y, x < 7 → y < 7 → lab x = lab y → x = y) :
    PureFn c 3 (fdef 14) [.fl (ts.map pV), .fl (tabI fun v => (lab v : Int))] (fun y => ∃ hs : List (List Nat), y = .fl (hs.map hourV) ∧ Run ts lab hs) := by
  refine PureFn.of (ps := ["ties", "labels"]) G.ok sig14 rfl (G.fn 14 (by simp)) (by simp [foot]) (P := fun fl ρ' => ∃ hs : List (List Nat), fl = .ret (.fl (hs.map hourV)) ∧ Run ts lab hs) ?_ (fun fl ρ' ⟨hs, h1, h2⟩ => ⟨hs, by rw [h1]; rfl, h2⟩)
  refine Wp.seq (WS.assignCellN (l := tabI fun v => (cnt ts v : Int)) (Ev.castN (by rw [List.filter_eq_self.mpr (by simp)]; rfl) (Ev.compM nV nD nDV (l := List.range 7) (fun _ => true) (fun v => .int (cnt ts v : Nat)) (Ev.rangeY G (n := 7) (Ev.int 7 _) (by omega)) (fun v hv => ?_) (by simp))) (.inr rfl) (fun an => wn ?_))
  · have hv7 : v < 7 := by simpa using hv
    refine ⟨rfl, _, rfl, Tsts.nil, fun _ U => El.ofEv (Ev.cast (a := (((ts.filter fun p => p.2 == v).map fun _ => V.int 1).length : Int)) (by unfold cnt; simp) (Ev.len G (Ev.freeze (Ev.compM pV pD pDV (l := ts) (fun p => p.2 == v) (fun _ => .int 1) (Ev.yields_fl (Ev.v rfl)) (fun p hp => ?_) (by have := hts.len; omega))) rfl (by
      have := List.length_filter_le (fun p : Nat × Nat => p.2 == v) ts
      have := hts.len
      simp; omega))) rfl (by simp)⟩
    exact ⟨rfl, _, bindP _ _ _ _ _ _ p, Tsts.one (Tst.cast (by rw [Bool.eq_iff_iff]; simp only [beq_iff_eq]; omega) (Tst.cmp (Ev.v rfl) (Ev.v rfl rfl (by simp [nV])) (CmpOk.ieq _ _))), fun _ U => El.ofEv (Ev.int 1 _) rfl (by simp)⟩
  refine Wp.seq (WS.compM nV nD nDV (l := List.range 7) (fun v => cnt ts v == 0) (pr lab) (Ev.rangeY G (n := 7) (Ev.int 7 _) (by omega)) (fun v hv => ?_) (by simp) (fun ah => wn ?_))
  · have hv7 : v < 7 := by simpa using hv
    exact ⟨rfl, _, rfl, Tsts.one (Tst.cast (by rw [Bool.eq_iff_iff]; simp only [beq_iff_eq]; omega) (Tst.cmp (Ev.subL (n := v) (y := .int (cnt ts v : Nat)) (Ev.v (V := .list an (tabI fun v => (cnt ts v : Int))) rfl) (Ev.v rfl) rfl rfl (tabI_at hv7) (by rw [tabI_len]; omega)) (Ev.int 0 _) (CmpOk.ieq _ _))),
      fun _ U => El.ofEv (Ev.pair (Ev.subL (n := v) (y := .int (lab v : Nat)) (Ev.v (V := .fl (tabI fun v => (lab v : Int))) rfl) (Ev.v rfl) rfl rfl (tabI_at hv7) (by rw [tabI_len]; omega)) (Ev.v rfl)) rfl (by simp [pr])⟩
  refine Wp.seq (WS.ifEx (Ex.callO (b := ah) (l := ((List.range 7).filter fun v => cnt ts v == 0).map (pr lab)) (rest := []) G.ok rfl (G.fn 4 (by simp)) rfl rfl (.inl rfl) EvA.nil (w4 G cmpPair (all_pr (lab := lab) (R := (List.range 7).filter fun v => cnt ts v == 0) (List.Perm.refl _)) (by
    have := List.length_filter_le (fun v => cnt ts v == 0) (List.range 7)
    rw [List.length_range] at this
    rw [List.length_map]; omega))) ?_)
  rintro v ρ'' ⟨l0, ⟨rfl, rfl⟩, rfl⟩
  refine ⟨.none, false, Ev.none _, CmpOk.isNot_none (by simp), fun h => (by cases h), fun _ => Wp.nil (wn ?_)⟩
  have hh0 := heapify_heap ordPairGt (l := ((List.range 7).filter fun v => cnt ts v == 0).map (pr lab)) (all_pr (List.Perm.refl _))
  generalize heapify vgt ((((List.range 7).filter fun v => cnt ts v == 0).map (pr lab)).length / 2) (((List.range 7).filter fun v => cnt ts v == 0).map (pr lab)) = l0 at hh0
  have hrem0 : remL [] ts = ts := by simp [remL]
  have hr0 : readyL ts [] = (List.range 7).filter fun v => cnt ts v == 0 := by unfold readyL; rw [hrem0]; simp
  refine Wp.seq (WS.assignNew Ev.nil (.inl rfl) (fun ao => wn ?_))
  refine Wp.seq (WS.while_ (fun n ρ' => ∃ (hs : List (List Nat)) (l : List V), n = 7 - hs.flatten.length ∧ Sub (("heap", .list ah l) :: B14 ts lab an ao (fun v => (cnt (remL hs.flatten ts) v : Int)) hs) ρ' ∧ LoopS ts lab hs l) 7
    ⟨[], l0, rfl, by
      show Sub (("heap", .list ah l0) :: B14 ts lab an ao (fun v => (cnt (remL [] ts) v : Int)) []) _
      rw [hrem0]; exact .cons rfl (sub14 rfl rfl rfl rfl), hh0.1, by
      show l0.Perm ((readyL ts []).map (pr lab))
      rw [hr0]; exact hh0.2, by simp, by simp, by simp, by simp⟩ ?_)
  rintro n ρ' ⟨hs, l, rfl, hsub, hhp, hperm, hnd, hlt, hz, hrun⟩
  have hll : l.length ≤ 7 := by
    rw [hperm.length_eq, List.length_map]
    have := List.length_filter_le (fun v => !(hs.flatten).contains v && cnt (remL hs.flatten ts) v == 0) (List.range 7)
    unfold readyL; simpa using this
  have hhs : hs.length ≤ 7 := by
    have h1 := pigeon 7 _ hnd hlt
    have h2 : ∀ hs : List (List Nat), (∀ h ∈ hs, h ≠ []) → hs.length ≤ hs.flatten.length := fun hs => by
      induction hs with
      | nil => intro _; simp
      | cons x r ih =>
        intro h
        have := ih fun y hy => h y (by simp [hy])
        have hx := List.length_pos_iff.mpr (h x (by simp))
        rw [List.flatten_cons, List.length_append, List.length_cons]; omega
    have h3 := h2 hs fun h hh => by
      obtain ⟨i, hi⟩ := List.mem_iff_getElem?.mp hh
      obtain ⟨⟨R', a1, _, a3⟩, a4⟩ := hrun i h hi
      rw [a3]
      intro q
      have : R' = [] := by cases R' with | nil => rfl | cons x r => simp at q
      rw [this] at a1
      exact a4 a1.symm.eq_nil
    omega
  refine ⟨!l.isEmpty, Tst.cmp (Ev.v (V := .list ah l) (hsub _ _ rfl)) (Ev.freeze Ev.nil) (CmpOk.neNil rfl rfl), fun hb => Wp.sub hsub ?_, fun hb => wn (Wp.sub hsub (Wp.freezeL (x := "hours") rfl (Wp.seq (WS.ret (Ev.v rfl) rfl (by simp) ⟨hs, rfl, fun i h hi => (hrun i h hi).1, fun i h hi => (hrun i h hi).2, ?_⟩))))⟩
  · obtain ⟨R', hR1, hR2⟩ := sorted_lab lab (readyL ts hs.flatten) (fun x hx y hy e => hinj x y (readyL_mem.mp hx).1 (readyL_mem.mp hy).1 e) (readyL_nd _ _)
    have hRl : R'.length ≤ 7 := by rw [hR1.length_eq]; rw [hperm.length_eq, List.length_map] at hll; exact hll
    have hl := all_pr hperm
    have hlnd : l.Nodup := hperm.nodup_iff.mpr (by
      refine List.Pairwise.map _ (fun a b h q => ?_) (readyL_nd ts hs.flatten)
      simp [pr] at q; have := q.2; exact h (by omega))
    have hsd := sortD_eq hl (desc_of hR1 hR2 hperm)
    refine Wp.seq (WS.assign (V := .fl ((R'.take 2).map (pr lab))) (Ev.castF (by rw [pickV_take, hsd, List.map_take]) (Ev.freeze (Ev.slice (hi := some _) (ph := some (2 : Nat)) (ops := fun o v => [v, o]) (Ev.freeze (Ev.sortedRev G.ok rfl (G.bi _ (by simp)) (Ev.v (V := .list ah l) rfl) (RevOk.pairs rfl hl hlnd (by omega)))) rfl .none (.some (Ev.int 2 _)) .none (by simp) (by rw [hsd]; simp; omega) (fun _ _ => rfl)))) rfl (.inl rfl) (wn ?_))
    generalize hD : hs.flatten = D at *
    have htop : TopTwo lab (readyL ts D) (R'.take 2) := ⟨R', hR1, hR2, rfl⟩
    refine Wp.sub (ρ' := ("due", .fl ((R'.take 2).map (pr lab))) :: ("heap", .list ah l) :: B14 ts lab an ao (fun v => (cnt (remL D ts) v : Int)) hs) (.cons rfl (.cons rfl (sub14 rfl rfl rfl rfl))) ?_
    refine Wp.seq (w14pop G (pos := ⟨0, 0, 0, 0⟩) (it := .Constant .none 0 ⟨0, 0, 0, 0⟩) hR2 hRl hhp (hperm.trans (hR1.map _).symm) fun l1 ρ1 hh1 hp1 hsub1 => wn (Wp.sub hsub1 ?_))
    have hmem : ∀ v ∈ R'.take 2, v ∈ readyL ts D := fun v hv => hR1.mem_iff.mp (List.mem_of_mem_take hv)
    refine Wp.seq (WS.append (a := ao) (l := hs.map hourV) (y := hourV (R'.take 2)) rfl (.inl rfl) (Ev.castF (by rw [List.filter_eq_self.mpr (by simp)]) (Ev.freeze (Ev.compM (pr lab) (fun x => match x with | .pair _ b => b.toNat | _ => 0) (fun a => by simp [pr]) (l := R'.take 2) (fun _ => true) nV (Ev.yields_fl (Ev.v rfl)) (fun v hv => ?_) (by rw [List.length_take]; omega)))) rfl (by simp [hourV]) (by rw [List.length_map]; omega) (wn ?_))
    · exact ⟨rfl, _, rfl, Tsts.nil, fun _ U => El.ofEv (Ev.subT (a := lab v) (b := v) (r := v) (Ev.v rfl rfl (by simp [pr])) (Ev.int 1 _) (.inr ⟨rfl, rfl⟩)) rfl (by simp [nV])⟩
    have hR'nd : R'.Nodup := hR1.nodup_iff.mpr (readyL_nd _ _)
    have hnew : ∀ v ∈ R'.take 2, v ∉ D := fun v hv => (readyL_mem.mp (hmem v hv)).2.1
    have hB : (D ++ R'.take 2).Nodup := List.nodup_append.mpr ⟨hnd, hR'nd.sublist (List.take_sublist 2 R'), fun a ha b hb e => hnew b hb (e ▸ ha)⟩
    have htd : ∀ v, v ∈ R'.drop 2 ↔ v ∈ R' ∧ v ∉ R'.take 2 := fun v => by
      have e := List.take_append_drop 2 R'
      have hn2 := hR'nd
      rw [← e] at hn2
      constructor
      · intro h
        exact ⟨List.mem_of_mem_drop h, fun q => (List.nodup_append.mp hn2).2.2 v q v h rfl⟩
      · rintro ⟨h1, h2⟩
        rw [← e] at h1
        exact (List.mem_append.mp h1).resolve_left h2
    have hoff : Off ts lab (D ++ R'.take 2) (remL D ts) l1 := by
      refine ⟨hh1, hp1.trans (List.Perm.map _ ?_), fun v hv => ?_⟩
      · refine (List.perm_ext_iff_of_nodup (hR'nd.sublist (List.drop_sublist 2 R')) (List.Pairwise.filter _ List.nodup_range)).mpr fun v => ?_
        rw [htd, hR1.mem_iff, readyL_mem, List.mem_filter, List.mem_range]
        simp only [Bool.and_eq_true, Bool.not_eq_true', beq_iff_eq]
        have e : (D ++ R'.take 2).contains v = false ↔ v ∉ D ∧ v ∉ R'.take 2 := by
          rw [← Bool.not_eq_true, List.contains_iff_mem, List.mem_append, not_or]
        rw [e]
        constructor
        · rintro ⟨⟨h1, h2, h3⟩, h4⟩; exact ⟨h1, ⟨h2, h4⟩, h3⟩
        · rintro ⟨h1, ⟨h2, h4⟩, h3⟩; exact ⟨⟨h1, h2, h3⟩, h4⟩
      · rcases List.mem_append.mp hv with q | q
        · exact hz v q
        · exact (readyL_mem.mp (hmem v q)).2.2
    have hne : R'.take 2 ≠ [] := fun q => by
      have : R' = [] := by
        cases R' with
        | nil => rfl
        | cons x r => simp at q
      rw [this] at hR1
      have h2 := hperm.length_eq
      rw [hR1.symm.eq_nil] at h2
      simp at h2
      rw [h2] at hb; simp at hb
    have hlt' : ∀ v ∈ D ++ R'.take 2, v < 7 := fun v hv => (List.mem_append.mp hv).elim (hlt v) fun q => (readyL_mem.mp (hmem v q)).1
    have hl7 := pigeon 7 _ hB hlt'
    rw [List.length_append] at hl7
    have hpos : 0 < (R'.take 2).length := List.length_pos_iff.mpr hne
    refine Wp.sub (ρ' := ("due", .fl ((R'.take 2).map (pr lab))) :: ("heap", .list ah l1) :: B14 ts lab an ao (fun v => (cnt (remL D ts) v : Int)) (hs ++ [R'.take 2])) (.cons rfl (.cons rfl (sub14 (by simp) rfl rfl rfl))) ?_
    refine Wp.seq (w14off G hts (pos := ⟨0, 0, 0, 0⟩) hB (fun v hv => hlt' v (List.mem_append_right _ hv)) hoff fun l2 ρ2 hoff2 hsub2 => wn (Wp.nil ?_))
    have hfl : (hs ++ [R'.take 2]).flatten = D ++ R'.take 2 := by rw [List.flatten_append, hD]; simp
    have hor := off_ready hoff2
    refine ⟨7 - (D ++ R'.take 2).length, by rw [List.length_append]; omega, hs ++ [R'.take 2], l2, by rw [hfl], by rw [hfl]; exact hsub2, hor.1, by rw [hfl]; exact hor.2.1, by rw [hfl]; exact hB, by rw [hfl]; exact hlt', by rw [hfl]; exact hor.2.2, fun i h hi => ?_⟩
    by_cases e : i < hs.length
    · rw [List.getElem?_append_left e] at hi
      rw [List.take_append_of_le_length (by omega)]
      exact hrun i h hi
    · have hi2 := (List.getElem?_eq_some_iff.mp hi).1
      have e2 : i = hs.length := by simp at hi2; omega
      subst e2
      rw [List.getElem?_append_right (Nat.le_refl _)] at hi
      simp at hi
      have e3 : ((hs ++ [R'.take 2]).take hs.length).flatten = D := by rw [List.take_left', hD]; rfl
      rw [e3, ← hi]
      exact ⟨htop, fun q => hne (by rw [q] at hR1; rw [hR1.eq_nil]; rfl)⟩
  · have hle : l = [] := by simpa using hb
    rw [hle] at hperm
    exact List.map_eq_nil_iff.mp hperm.symm.eq_nil
end Mine
end
section
open PySem PyProof.Rows PySem.Calls
set_option maxRecDepth 10000
set_option linter.unusedVariables false
set_option linter.unusedSimpArgs false
namespace Mine
theorem vlt_item (a a' : List Int) (b b' : Int) : vlt (.item a b) (.item a' b') = if a = a' then decide (b < b') else lexLt a a' := rfl
theorem lexLt_irr : ∀ a, lexLt a a = false
  | [] => rfl
  | x :: r => by unfold lexLt; rw [if_pos rfl]; exact lexLt_irr r
theorem lexLt_tot : ∀ a b, a ≠ b → lexLt a b = true ∨ lexLt b a = true
  | [], [], h => absurd rfl h
  | [], _ :: _, _ => .inl rfl
  | _ :: _, [], _ => .inr rfl
  | x :: r, y :: s, h => by
    unfold lexLt
    by_cases e : x = y
    · subst e
      rw [if_pos rfl, if_pos rfl]
      exact lexLt_tot r s fun q => h (by rw [q])
    · rw [if_neg e, if_neg (Ne.symm e)]
      simp; omega
theorem lexLt_tr : ∀ a b c, lexLt a b = true → lexLt b c = true → lexLt a c = true
  | [], [], _, h, _ => by cases h
  | [], _ :: _, [], _, h => by cases h
  | [], _ :: _, _ :: _, _, _ => rfl
  | _ :: _, [], _, h, _ => by cases h
  | _ :: _, _ :: _, [], _, h => by cases h
  | x :: r, y :: s, z :: t, h1, h2 => by
    unfold lexLt at *
    by_cases e1 : x = y
    · subst e1
      rw [if_pos rfl] at h1
      by_cases e2 : x = z
      · subst e2
        rw [if_pos rfl] at h2 ⊢
        exact lexLt_tr r s t h1 h2
      · rw [if_neg e2] at h2 ⊢; exact h2
    · rw [if_neg e1] at h1
      by_cases e2 : y = z
      · subst e2; rw [if_neg e1]; exact h1
      · rw [if_neg e2] at h2
        have h1' := of_decide_eq_true h1
        have h2' := of_decide_eq_true h2
        rw [if_neg (by omega)]
        simp; omega
theorem lexLt_asym (a b : List Int) (h : lexLt a b = true) : lexLt b a = false := by
  cases e : lexLt b a with
  | false => rfl
  | true => have := lexLt_tr a b a h e; rw [lexLt_irr] at this; cases this
theorem item_tot {x y : V} (hx : isItem x) (hy : isItem y) (h : x ≠ y) : vlt x y = true ∨ vlt y x = true := by
  obtain ⟨a, b, rfl⟩ := hx; obtain ⟨a', b', rfl⟩ := hy
  rw [vlt_item, vlt_item]
  by_cases e : a = a'
  · subst e
    have : b ≠ b' := fun q => h (by rw [q])
    simp; omega
  · rw [if_neg e, if_neg (Ne.symm e)]
    exact lexLt_tot a a' e
theorem item_asym {x y : V} (hx : isItem x) (hy : isItem y) (h : vlt x y = true) : vlt y x = false := by
  obtain ⟨a, b, rfl⟩ := hx; obtain ⟨a', b', rfl⟩ := hy
  rw [vlt_item] at *
  by_cases e : a = a'
  · subst e; simp at *; omega
  · rw [if_neg e] at h; rw [if_neg (Ne.symm e)]; exact lexLt_asym _ _ h
theorem item_tr {x y z : V} (hx : isItem x) (hy : isItem y) (hz : isItem z) (h1 : vlt x y = true) (h2 : vlt y z = true) : vlt x z = true := by
  obtain ⟨a, b, rfl⟩ := hx; obtain ⟨a', b', rfl⟩ := hy; obtain ⟨a'', b'', rfl⟩ := hz
  rw [vlt_item] at *
  by_cases e1 : a = a'
  · subst e1
    rw [if_pos rfl] at h1
    by_cases e2 : a = a''
    · subst e2; simp at *; omega
    · rw [if_neg e2] at h2 ⊢; exact h2
  · rw [if_neg e1] at h1
    by_cases e2 : a' = a''
    · subst e2; rw [if_neg e1]; exact h1
    · rw [if_neg e2] at h2
      have h3 := lexLt_tr _ _ _ h1 h2
      by_cases e3 : a = a''
      · subst e3; rw [lexLt_irr] at h3; cases h3
      · rw [if_neg e3]; exact h3
theorem ordItem : Ord vlt isItem where
  asym := fun x y hx hy h => item_asym hx hy h
  tr := fun x y z hx hy hz h1 h2 => item_tr hx hy hz h1 h2
  ntr := fun x y z hx hy hz h1 h2 => by
    cases e : vlt x z with
    | false => rfl
    | true =>
      by_cases q : x = y
      · subst q; rw [e] at h2; cases h2
      · rcases item_tot hx hy q with h | h
        · rw [h] at h1; cases h1
        · have := item_tr hy hx hz h e; rw [this] at h2; cases h2
/-- min gives the least -/
theorem argBest_min (bt : Nat → Nat → Bool) (N : Nat) (htr : ∀ i j k, i ≤ N → j ≤ N → k ≤ N → bt i j = true → bt j k = true → bt i k = true) (hir : ∀ i, i ≤ N → bt i i = false) : ∀ n i, n ≤ N → i ≤ n → bt i (argBest bt n) = false
  | 0, i, _, hi => by
    have : i = 0 := by omega
    subst this; exact hir 0 (by omega)
  | n + 1, i, hN, hi => by
    have hb := argBest_le bt n
    unfold argBest
    by_cases h : bt (n + 1) (argBest bt n) = true
    · rw [if_pos h]
      by_cases e : i = n + 1
      · rw [e]; exact hir _ hN
      · have h1 := argBest_min bt N htr hir n i (by omega) (by omega)
        cases h2 : bt i (n + 1) with
        | false => rfl
        | true => have := htr _ _ _ (by omega) hN (by omega) h2 h; rw [this] at h1; cases h1
    · rw [if_neg h]
      by_cases e : i = n + 1
      · rw [e]; simpa using h
      · exact argBest_min bt N htr hir n i (by omega) (by omega)
theorem minAt_least {l : List V} (hl : ∀ x ∈ l, isItem x) (hne : l ≠ []) : l.getD (minAt l) .none ∈ l ∧ ∀ x ∈ l, vlt x (l.getD (minAt l) .none) = false := by
  have hpos : 0 < l.length := List.length_pos_iff.mpr hne
  have hb := argBest_le (fun i j => vlt (l.getD i .none) (l.getD j .none)) (l.length - 1)
  have hmin : minAt l < l.length := by unfold minAt; omega
  have hmem : l.getD (minAt l) .none ∈ l := by simp [hmin]
  refine ⟨hmem, fun x hx => ?_⟩
  obtain ⟨i, hi, rfl⟩ := List.mem_iff_getElem.mp hx
  have e : l[i] = l.getD i .none := by simp [hi]
  rw [e]
  exact argBest_min (fun i j => vlt (l.getD i .none) (l.getD j .none)) (l.length - 1) (fun i j k h1 h2 h3 q1 q2 => item_tr (getD_S hl (by omega)) (getD_S hl (by omega)) (getD_S hl (by omega)) q1 q2) (fun i h1 => by
    have hS := getD_S (S := isItem) hl (show i < l.length by omega)
    cases q : vlt (l.getD i .none) (l.getD i .none) with
    | false => rfl
    | true => have := item_asym hS hS q; rw [q] at this; cases this) (l.length - 1) i (Nat.le_refl _) (by omega)
end Mine
end
section
open PySem PyProof.Rows PySem.Calls
set_option maxRecDepth 10000
set_option linter.unusedVariables false
set_option linter.unusedSimpArgs false
namespace Mine
/-- how many of v's followers have no label yet -/
def wcnt (rem : List (Nat × Nat)) (v : Nat) : Nat := (rem.filter fun p => p.1 == v).length
def remF (L : List Nat) (ts : List (Nat × Nat)) : List (Nat × Nat) := ts.filter fun p => !L.contains p.2
def foll (ts : List (Nat × Nat)) (g : Nat → Int) (a : Nat) : List Int := (sortI ((ts.filter fun p => p.1 == a).map fun p => g p.2)).reverse
def itm (ts : List (Nat × Nat)) (g : Nat → Int) (v : Nat) : V := .item (foll ts g v) v
theorem isItem_itm (ts g v) : isItem (itm ts g v) := ⟨_, _, rfl⟩
/-- what the labels are -/
structure Lab (ts : List (Nat × Nat)) (L : List Nat) (g : Nat → Int) : Prop where
  nd : L.Nodup
  lt : ∀ v ∈ L, v < 7
  at' : ∀ (k : Nat) v, L[k]? = some v → g v = (k : Int) + 1
  off : ∀ v, v < 7 → v ∉ L → g v = 0
  fol : ∀ (k : Nat) v, L[k]? = some v → ∀ p ∈ ts, p.1 = v → p.2 ∈ L.take k
  least : ∀ (k : Nat) v, L[k]? = some v → ∀ w, w < 7 → w ∉ L.take k → (∀ p ∈ ts, p.1 = w → p.2 ∈ L.take k) → vlt (itm ts g w) (itm ts g v) = false
theorem wcnt_zero {L ts v} : wcnt (remF L ts) v = 0 ↔ ∀ p ∈ ts, p.1 = v → p.2 ∈ L := by
  unfold wcnt remF
  rw [List.length_eq_zero_iff, List.filter_filter, List.filter_eq_nil_iff]
  constructor
  · intro h p hp e
    have := h p hp
    simp only [Bool.and_eq_true, beq_iff_eq, Bool.not_eq_true', not_and, Bool.not_eq_false] at this
    exact List.contains_iff_mem.mp (this e)
  · intro h p hp
    simp only [Bool.and_eq_true, beq_iff_eq, Bool.not_eq_true', not_and, Bool.not_eq_false]
    intro e
    exact List.contains_iff_mem.mpr (h p hp e)
theorem foll_congr {ts g g' v} (h : ∀ p ∈ ts, p.1 = v → g p.2 = g' p.2) : foll ts g v = foll ts g' v := by
  unfold foll
  congr 2
  apply List.map_congr_left
  intro p hp
  have := List.mem_filter.mp hp
  exact h p this.1 (by simpa using this.2)
theorem itm_congr {ts g g' v} (h : ∀ p ∈ ts, p.1 = v → g p.2 = g' p.2) : itm ts g v = itm ts g' v := by unfold itm; rw [foll_congr h]
theorem foll_nil {ts g v} (h : ∀ p ∈ ts, p.1 ≠ v) : foll ts g v = [] := by
  unfold foll
  rw [List.filter_eq_nil_iff.mpr fun p hp => by simpa using h p hp]
  simp [sortI]
def remJF (L : List Nat) (a : Nat) (ts : List (Nat × Nat)) (j : Nat) : List (Nat × Nat) := remF (L ++ [a]) (ts.take j) ++ remF L (ts.drop j)
theorem remJF_zero (D a ts) : remJF D a ts 0 = remF D ts := by simp [remJF, remF]
theorem remJF_end (D a ts) : remJF D a ts ts.length = remF (D ++ [a]) ts := by simp [remJF, remF]
theorem wcnt_append (X Y : List (Nat × Nat)) (v : Nat) : wcnt (X ++ Y) v = wcnt X v + wcnt Y v := by simp [wcnt]
theorem wcnt_step {D : List Nat} {a j : Nat} {ts : List (Nat × Nat)} {p : Nat × Nat} (ha : a ∉ D) (hp : ts[j]? = some p) (v : Nat) : wcnt (remJF D a ts j) v = wcnt (remJF D a ts (j + 1)) v + if p.2 = a ∧ p.1 = v then 1 else 0 := by
  have hj : j < ts.length := (List.getElem?_eq_some_iff.mp hp).1
  have e1 : ts.take (j + 1) = ts.take j ++ [p] := by rw [List.take_add_one, hp]; rfl
  have e2 : ts.drop j = p :: ts.drop (j + 1) := by
    have := List.drop_eq_getElem_cons hj
    rw [(List.getElem?_eq_some_iff.mp hp).2] at this; exact this
  unfold remJF
  rw [wcnt_append, wcnt_append, e1, e2]
  have e3 : remF (D ++ [a]) (ts.take j ++ [p]) = remF (D ++ [a]) (ts.take j) ++ remF (D ++ [a]) [p] := by simp [remF]
  have e4 : remF D (p :: ts.drop (j + 1)) = remF D [p] ++ remF D (ts.drop (j + 1)) := by simp [remF, List.filter_cons]; split <;> simp
  rw [e3, e4, wcnt_append, wcnt_append]
  have key : wcnt (remF D [p]) v = wcnt (remF (D ++ [a]) [p]) v + if p.2 = a ∧ p.1 = v then 1 else 0 := by
    unfold remF
    by_cases h1 : p.2 = a
    · have h2 : p.2 ∉ D := h1 ▸ ha
      rw [List.filter_cons, List.filter_cons]
      simp only [List.contains_iff_mem, List.mem_append, List.mem_singleton, h1, ha, or_true, List.filter_nil]
      by_cases h3 : p.1 = v <;> simp [wcnt, h3, ha]
    · rw [List.filter_cons, List.filter_cons]
      have : (D ++ [a]).contains p.2 = D.contains p.2 := by
        rw [Bool.eq_iff_iff]; simp [h1]
      rw [this]
      simp [h1]
  omega
end Mine
end
section
open PySem PyProof.Rows PySem.Calls
set_option maxRecDepth 10000
set_option linter.unusedVariables false
set_option linter.unusedSimpArgs false
namespace Mine
def ends (l : List (Nat × Nat)) : List Nat := l.flatMap fun p => [p.1, p.2]
/-- pairs of works, each work once, neither of a pair needs the other -/
structure Mt (f : Nat → Nat → Bool) (l : List (Nat × Nat)) (n : Nat) : Prop where
  inc : ∀ p ∈ l, f p.1 p.2 = false ∧ f p.2 p.1 = false
  nd : (ends l).Nodup
  inn : ∀ v ∈ ends l, v < 7 ∧ bit n v = true
theorem ends_cons (p l) : ends (p :: l) = p.1 :: p.2 :: ends l := by simp [ends]
theorem mem_ends {v : Nat} {l : List (Nat × Nat)} : v ∈ ends l ↔ ∃ p ∈ l, v = p.1 ∨ v = p.2 := by simp [ends, List.mem_flatMap]
theorem Mt.perm {f l l' n} (h : Mt f l n) (p : l.Perm l') : Mt f l' n where
  inc := fun q hq => h.inc q (p.mem_iff.mpr hq)
  nd := (List.Perm.nodup_iff (show (ends l).Perm (ends l') from p.flatMap_right _)).mp h.nd
  inn := fun v hv => h.inn v ((show (ends l).Perm (ends l') from p.flatMap_right _).mem_iff.mpr hv)
theorem Mt.mono {f l n n'} (h : Mt f l n) (hb : ∀ v, v < 7 → bit n v = true → bit n' v = true) : Mt f l n' :=
  ⟨h.inc, h.nd, fun v hv => ⟨(h.inn v hv).1, hb v (h.inn v hv).1 (h.inn v hv).2⟩⟩
theorem Mt.cons {f l n n' a b} (h : Mt f l n) (ha : a < 7) (hb : b < 7) (hab : a ≠ b) (h1 : f a b = false) (h2 : f b a = false) (na : bit n a = false) (nb : bit n b = false) (ba : bit n' a = true) (bb : bit n' b = true)
    (hm : ∀ v, v < 7 → bit n v = true → bit n' v = true) : Mt f ((a, b) :: l) n' where
  inc := fun q hq => by
    rcases List.mem_cons.mp hq with e | e
    · subst e; exact ⟨h1, h2⟩
    · exact h.inc q e
  nd := by
    rw [ends_cons]
    have n1 : a ∉ ends l := fun q => by have := (h.inn a q).2; rw [na] at this; cases this
    have n2 : b ∉ ends l := fun q => by have := (h.inn b q).2; rw [nb] at this; cases this
    simp [h.nd, n1, n2, hab]
  inn := fun v hv => by
    rw [ends_cons] at hv
    rcases List.mem_cons.mp hv with e | e
    · subst e; exact ⟨ha, ba⟩
    rcases List.mem_cons.mp e with e | e
    · subst e; exact ⟨hb, bb⟩
    · exact ⟨(h.inn v e).1, hm v (h.inn v e).1 (h.inn v e).2⟩
theorem bit_off' : ∀ n, n < 128 → ∀ a, a < 7 → ∀ v, v < 7 → bit n a = true → bit (n - 2 ^ a) v = (bit n v && v != a) := by decide +kernel
theorem bit_off {n a v : Nat} (hn : n < 128) (ha : a < 7) (hv : v < 7) (h : bit n a = true) : bit (n - 2 ^ a) v = (bit n v && v != a) := bit_off' n hn a ha v hv h
theorem bit_on' : ∀ n, n < 128 → ∀ a, a < 7 → ∀ v, v < 7 → bit n a = false → bit (n + 2 ^ a) v = (bit n v || v == a) := by decide +kernel
theorem bit_on {n a v : Nat} (hn : n < 128) (ha : a < 7) (hv : v < 7) (h : bit n a = false) : bit (n + 2 ^ a) v = (bit n v || v == a) := bit_on' n hn a ha v hv h
def mp (f : Nat → Nat → Bool) (n : Nat) : Nat := (mpT f n).getD n 0
theorem mp_at (f) : ∀ N m, m ≤ N → (mpT f N).getD m 0 = mp f m
  | 0, m, h => by
    have : m = 0 := by omega
    subst this; rfl
  | N + 1, m, h => by
    by_cases e : m = N + 1
    · subst e; rfl
    · have ih := mp_at f N m (by omega)
      rw [mpT, List.getD_eq_getElem?_getD, List.getElem?_append_left (by rw [mpT_len]; omega), ← List.getD_eq_getElem?_getD]
      exact ih
theorem foldl_best {P : Nat → Bool} {g : Nat → Nat} : ∀ (l : List Nat) (s : Nat), let r := l.foldl (fun best i => if P i = true then max best (g i) else best) s
    s ≤ r ∧ (∀ i ∈ l, P i = true → g i ≤ r) ∧ (r = s ∨ ∃ i ∈ l, P i = true ∧ r = g i)
  | [], s => by simp
  | x :: l, s => by
    rw [List.foldl_cons]
    have ih := foldl_best (P := P) (g := g) l (if P x = true then max s (g x) else s)
    by_cases hx : P x = true
    · rw [if_pos hx] at ih ⊢
      obtain ⟨h1, h2, h3⟩ := ih
      refine ⟨by omega, fun i hi hp => ?_, ?_⟩
      · rcases List.mem_cons.mp hi with e | e
        · subst e; omega
        · exact h2 i e hp
      · rcases h3 with h3 | ⟨i, hi, hp, h3⟩
        · by_cases q : g x ≤ s
          · left; rw [h3]; omega
          · right; exact ⟨x, by simp, hx, by rw [h3]; omega⟩
        · right; exact ⟨i, by simp [hi], hp, h3⟩
    · rw [if_neg hx] at ih ⊢
      obtain ⟨h1, h2, h3⟩ := ih
      refine ⟨h1, fun i hi hp => ?_, ?_⟩
      · rcases List.mem_cons.mp hi with e | e
        · subst e; exact absurd hp hx
        · exact h2 i e hp
      · rcases h3 with h3 | ⟨i, hi, hp, h3⟩
        · exact .inl h3
        · right; exact ⟨i, by simp [hi], hp, h3⟩
/-- the table's step -/
theorem mp_step (f) {n : Nat} (hn : n < 128) (h1 : 1 ≤ n) : mp f (n - 2 ^ low n) ≤ mp f n ∧ (∀ b, low n < b → b < 7 → bit n b = true → f (low n) b = false → f b (low n) = false → 1 + mp f (n - 2 ^ low n - 2 ^ b) ≤ mp f n) ∧
    (mp f n = mp f (n - 2 ^ low n) ∨ ∃ b, low n < b ∧ b < 7 ∧ bit n b = true ∧ f (low n) b = false ∧ f b (low n) = false ∧ mp f n = 1 + mp f (n - 2 ^ low n - 2 ^ b)) := by
  obtain ⟨q1, q2, q3, q4⟩ := low_ok n hn h1
  have hp := Nat.two_pow_pos (low n)
  obtain ⟨N, rfl⟩ : ∃ N, n = N + 1 := ⟨n - 1, by omega⟩
  have e : mp f (N + 1) = mpS f (mpT f N) (N + 1) := by
    unfold mp
    rw [mpT, List.getD_eq_getElem?_getD, List.getElem?_append_right (by rw [mpT_len]; exact Nat.le_refl _), mpT_len]
    simp
  have key := foldl_best (P := fun i => bit (N + 1) (low (N + 1) + 1 + i) && !f (low (N + 1)) (low (N + 1) + 1 + i) && !f (low (N + 1) + 1 + i) (low (N + 1))) (g := fun i => 1 + (mpT f N).getD (N + 1 - 2 ^ low (N + 1) - 2 ^ (low (N + 1) + 1 + i)) 0)
    (List.range (6 - low (N + 1))) ((mpT f N).getD (N + 1 - 2 ^ low (N + 1)) 0)
  have e2 : (List.range (6 - low (N + 1))).foldl (fun best i => if (bit (N + 1) (low (N + 1) + 1 + i) && !f (low (N + 1)) (low (N + 1) + 1 + i) && !f (low (N + 1) + 1 + i) (low (N + 1))) = true then max best (1 + (mpT f N).getD (N + 1 - 2 ^ low (N + 1) - 2 ^ (low (N + 1) + 1 + i)) 0) else best) ((mpT f N).getD (N + 1 - 2 ^ low (N + 1)) 0) = mp f (N + 1) := by rw [e]; rfl
  simp only [] at key
  rw [e2] at key
  rw [mp_at f N _ (by omega)] at key
  obtain ⟨k1, k2, k3⟩ := key
  refine ⟨k1, fun b hb1 hb2 hb3 hb4 hb5 => ?_, ?_⟩
  · have := k2 (b - low (N + 1) - 1) (by rw [List.mem_range]; omega)
    rw [show low (N + 1) + 1 + (b - low (N + 1) - 1) = b by omega, hb3, hb4, hb5] at this
    have := this rfl
    have hpb := Nat.two_pow_pos b
    rwa [mp_at f N _ (by omega)] at this
  · rcases k3 with k3 | ⟨i, hi, hp', k3⟩
    · exact .inl k3
    · rw [List.mem_range] at hi
      simp only [Bool.and_eq_true, Bool.not_eq_true'] at hp'
      have hpb := Nat.two_pow_pos (low (N + 1) + 1 + i)
      rw [mp_at f N _ (by omega)] at k3
      exact .inr ⟨low (N + 1) + 1 + i, by omega, by omega, hp'.1.1, hp'.1.2, hp'.2, k3⟩
theorem bit_zero (v : Nat) : bit 0 v = false := by unfold bit; simp
/-- as many pairs can be made -/
theorem mp_some (f) : ∀ n, n < 128 → ∃ l, Mt f l n ∧ l.length = mp f n := fun n => by
  induction n using Nat.strongRecOn with
  | _ n ih =>
    intro hn
    rcases Nat.eq_zero_or_pos n with h0 | h0
    · subst h0
      exact ⟨[], ⟨by simp, by simp [ends], by simp [ends]⟩, by simp [mp, mpT]⟩
    · obtain ⟨q1, q2, q3, q4⟩ := low_ok n hn h0
      have hp := Nat.two_pow_pos (low n)
      have hm : ∀ v, v < 7 → bit (n - 2 ^ low n) v = true → bit n v = true := fun v hv h => by
        rw [bit_off hn q1 hv q2] at h; simp at h; exact h.1
      rcases (mp_step f hn h0).2.2 with h | ⟨b, hb1, hb2, hb3, hb4, hb5, h⟩
      · obtain ⟨l, h1, h2⟩ := ih (n - 2 ^ low n) (by omega) (by omega)
        exact ⟨l, h1.mono hm, by rw [h2, h]⟩
      · have hle := bit_sub n hn h0 b hb2 hb1 hb3
        have hpb := Nat.two_pow_pos b
        obtain ⟨l, h1, h2⟩ := ih (n - 2 ^ low n - 2 ^ b) (by omega) (by omega)
        have hbb : bit (n - 2 ^ low n) b = true := by rw [bit_off hn q1 hb2 q2, hb3]; simp; omega
        have hn2 : n - 2 ^ low n < 128 := by omega
        refine ⟨(low n, b) :: l, h1.cons q1 hb2 (by omega) hb4 hb5 ?_ ?_ q2 hb3 (fun v hv h => ?_), by rw [List.length_cons, h2, h]; omega⟩
        · rw [bit_off hn2 hb2 q1 hbb, bit_off hn q1 q1 q2]; simp
        · rw [bit_off hn2 hb2 hb2 hbb]; simp
        · rw [bit_off hn2 hb2 hv hbb] at h; simp at h; exact hm v hv h.1
/-- and no more -/
theorem mp_all (f) : ∀ n, n < 128 → ∀ l, Mt f l n → l.length ≤ mp f n := fun n => by
  induction n using Nat.strongRecOn with
  | _ n ih =>
    intro hn l hl
    rcases Nat.eq_zero_or_pos n with h0 | h0
    · subst h0
      cases l with
      | nil => simp
      | cons p l =>
        have := (hl.inn p.1 (by rw [ends_cons]; simp)).2
        rw [bit_zero] at this; cases this
    · obtain ⟨q1, q2, q3, q4⟩ := low_ok n hn h0
      have hp := Nat.two_pow_pos (low n)
      have hst := mp_step f hn h0
      by_cases hin : low n ∈ ends l
      · obtain ⟨p, hpl, hpe⟩ := mem_ends.mp hin
        have hperm : l.Perm (p :: l.erase p) := List.perm_cons_erase hpl
        have hl' := hl.perm hperm
        have key : ∀ b, b ≠ low n → b < 7 → bit n b = true → f (low n) b = false → f b (low n) = false → low n ∉ ends (l.erase p) → b ∉ ends (l.erase p) → l.length ≤ mp f n := fun b hb0 hb2 hb3 hb4 hb5 hn1 hn2 => by
          have hb1 : low n < b := by
            rcases Nat.lt_or_ge b (low n) with h | h
            · rw [q3 b h] at hb3; cases hb3
            · omega
          have hle := bit_sub n hn h0 b hb2 hb1 hb3
          have hpb := Nat.two_pow_pos b
          have hbb : bit (n - 2 ^ low n) b = true := by rw [bit_off hn q1 hb2 q2, hb3]; simp; omega
          have hlt : n - 2 ^ low n < 128 := by omega
          have := ih (n - 2 ^ low n - 2 ^ b) (by omega) (by omega) (l.erase p) ⟨fun q hq => hl'.inc q (by simp [hq]), (by have := hl'.nd; rw [ends_cons] at this; exact (List.nodup_cons.mp (List.nodup_cons.mp this).2).2), fun v hv => by
            have hv' := hl'.inn v (by rw [ends_cons]; simp [hv])
            refine ⟨hv'.1, ?_⟩
            rw [bit_off hlt hb2 hv'.1 hbb, bit_off hn q1 hv'.1 q2, hv'.2]
            have e1 : v ≠ low n := fun e => hn1 (e ▸ hv)
            have e2 : v ≠ b := fun e => hn2 (e ▸ hv)
            simp [e1, e2]⟩
          have h2 := hst.2.1 b hb1 hb2 hb3 hb4 hb5
          have h3 := hperm.length_eq
          rw [List.length_cons] at h3
          omega
        have hnd := hl'.nd
        rw [ends_cons] at hnd
        obtain ⟨d1, d2⟩ := List.nodup_cons.mp hnd
        obtain ⟨d2, d3⟩ := List.nodup_cons.mp d2
        simp only [List.mem_cons, not_or] at d1
        have i1 := hl.inn p.1 (mem_ends.mpr ⟨p, hpl, .inl rfl⟩)
        have i2 := hl.inn p.2 (mem_ends.mpr ⟨p, hpl, .inr rfl⟩)
        have hi := hl.inc p hpl
        rcases hpe with e | e
        · refine key p.2 (by rw [e]; exact fun q => d1.1 q.symm) i2.1 i2.2 (by rw [e]; exact hi.1) (by rw [e]; exact hi.2) (by rw [e]; exact d1.2) d2
        · refine key p.1 (by rw [e]; exact d1.1) i1.1 i1.2 (by rw [e]; exact hi.2) (by rw [e]; exact hi.1) (by rw [e]; exact d2) d1.2
      · have := ih (n - 2 ^ low n) (by omega) (by omega) l ⟨hl.inc, hl.nd, fun v hv => by
          have := hl.inn v hv
          refine ⟨this.1, ?_⟩
          rw [bit_off hn q1 this.1 q2, this.2]
          have e1 : v ≠ low n := fun e => hin (e ▸ hv)
          simp [e1]⟩
        have := hst.1
        omega
/-- the bits of n -/
def pc (n : Nat) : Nat := ((List.range 7).filter (bit n)).length
theorem pc_on : ∀ n, n < 128 → ∀ a, a < 7 → bit n a = false → pc (n + 2 ^ a) = pc n + 1 := by decide +kernel
/-- an hour more takes one work, or two that don't need one another -/
theorem bit_need {f : Nat → Nat → Bool} {a v : Nat} (ha : a < 7) : bit (need f v) a = f a v := by
  have key : ∀ b0 b1 b2 b3 b4 b5 b6 : Bool, ∀ a, a < 7 → bit (((((List.range 7).filter fun a => [b0, b1, b2, b3, b4, b5, b6].getD a false).map fun a => 2 ^ a)).sum) a = [b0, b1, b2, b3, b4, b5, b6].getD a false := by decide +kernel
  have := key (f 0 v) (f 1 v) (f 2 v) (f 3 v) (f 4 v) (f 5 v) (f 6 v) a ha
  have e : ∀ a, a < 7 → [f 0 v, f 1 v, f 2 v, f 3 v, f 4 v, f 5 v, f 6 v].getD a false = f a v := fun a ha => by
    match a, ha with
    | 0, _ => rfl
    | 1, _ => rfl
    | 2, _ => rfl
    | 3, _ => rfl
    | 4, _ => rfl
    | 5, _ => rfl
    | 6, _ => rfl
  rw [e a ha] at this
  rw [← this]
  unfold need
  rw [show ((List.range 7).filter fun a => f a v) = (List.range 7).filter fun a => [f 0 v, f 1 v, f 2 v, f 3 v, f 4 v, f 5 v, f 6 v].getD a false from List.filter_congr fun x hx => (e x (by simpa using hx)).symm]
theorem need_lt {f : Nat → Nat → Bool} {v : Nat} : need f v < 128 := by
  have key : ∀ b0 b1 b2 b3 b4 b5 b6 : Bool, (((((List.range 7).filter fun a => [b0, b1, b2, b3, b4, b5, b6].getD a false).map fun a => 2 ^ a)).sum) < 128 := by decide +kernel
  have := key (f 0 v) (f 1 v) (f 2 v) (f 3 v) (f 4 v) (f 5 v) (f 6 v)
  have e : ∀ a, a < 7 → [f 0 v, f 1 v, f 2 v, f 3 v, f 4 v, f 5 v, f 6 v].getD a false = f a v := fun a ha => by
    match a, ha with
    | 0, _ => rfl
    | 1, _ => rfl
    | 2, _ => rfl
    | 3, _ => rfl
    | 4, _ => rfl
    | 5, _ => rfl
    | 6, _ => rfl
  unfold need
  rw [show ((List.range 7).filter fun a => f a v) = (List.range 7).filter fun a => [f 0 v, f 1 v, f 2 v, f 3 v, f 4 v, f 5 v, f 6 v].getD a false from List.filter_congr fun x hx => (e x (by simpa using hx)).symm]
  exact this
theorem band_iff' {d m : Nat} (hm : m < 128) : (d &&& m) = m ↔ ∀ a, a < 7 → bit m a = true → bit d a = true := by
  have hb : ∀ n a, bit n a = n.testBit a := fun n a => by
    rw [Nat.testBit_eq_decide_div_mod_eq]; unfold bit
    rw [Bool.eq_iff_iff]; simp
  constructor
  · intro h a ha h2
    rw [hb] at *
    rw [← h, Nat.testBit_and] at h2
    simp at h2; exact h2.1
  · intro h
    apply Nat.eq_of_testBit_eq
    intro a
    rw [Nat.testBit_and]
    by_cases ha : a < 7
    · have := h a ha
      rw [hb, hb] at this
      cases e : m.testBit a with
      | false => simp
      | true => rw [this e]; rfl
    · have : m.testBit a = false := Nat.testBit_lt_two_pow (Nat.lt_of_lt_of_le hm (Nat.pow_le_pow_right (n := 2) (by omega) (show 7 ≤ a by omega)))
      rw [this]; simp
theorem rdy_iff {f : Nat → Nat → Bool} {d v : Nat} : rdy f d v = true ↔ bit d v = false ∧ ∀ a, a < 7 → f a v = true → bit d a = true := by
  unfold rdy
  rw [Bool.and_eq_true, Bool.not_eq_true', beq_iff_eq, band_iff' need_lt]
  exact and_congr Iff.rfl ⟨fun h a ha hf => h a ha ((bit_need (f := f) (v := v) ha).trans hf), fun h a ha hb => h a ha ((bit_need (f := f) (v := v) ha).symm.trans hb)⟩
theorem Lev.lt {f} : ∀ {t n}, Lev f t n → n < 128
  | 0, n, h => by
    have : n = 0 := h
    omega
  | t + 1, n, ⟨d, h, hx⟩ => hx.lt (Lev.lt h)
theorem lev_pairs (f) : ∀ t n, Lev f t n → pc n ≤ t + mp f n
  | 0, n, h => by
    have : n = 0 := h
    subst this
    show pc 0 ≤ _
    rw [show pc 0 = 0 by decide]; omega
  | t + 1, n, ⟨d, h, a, ha, hr, hx⟩ => by
    have hd := Lev.lt h
    have ih := lev_pairs f t d h
    obtain ⟨l, hl1, hl2⟩ := mp_some f d hd
    have ba := (rdy_iff.mp hr).1
    have hda := bit_add d hd a ha ba
    rcases hx with hx | ⟨b, hb, hrb, hab, hx⟩
    · have h1 := mp_all f (d + 2 ^ a) hda l (hl1.mono fun v hv hv' => by rw [bit_on hd ha hv ba, hv']; rfl)
      have h2 := pc_on d hd a ha ba
      rw [hx]; omega
    · have bb := (rdy_iff.mp hrb).1
      have bb' : bit (d + 2 ^ a) b = false := by rw [bit_on hd ha hb ba, bb]; simp; omega
      have hdb := bit_add (d + 2 ^ a) hda b hb bb'
      have fab : f a b = false := by
        cases e : f a b with
        | false => rfl
        | true => have := (rdy_iff.mp hrb).2 a ha e; rw [ba] at this; cases this
      have fba : f b a = false := by
        cases e : f b a with
        | false => rfl
        | true => have := (rdy_iff.mp hr).2 b hb e; rw [bb] at this; cases this
      have hm := hl1.cons (n' := d + 2 ^ a + 2 ^ b) ha hb (by omega) fab fba ba bb (by rw [bit_on hda hb ha bb', bit_on hd ha ha ba]; simp) (by rw [bit_on hda hb hb bb']; simp) (fun v hv hv' => by rw [bit_on hda hb hv bb', bit_on hd ha hv ba, hv']; simp)
      have h1 := mp_all f (d + 2 ^ a + 2 ^ b) hdb _ hm
      rw [List.length_cons] at h1
      have h2 := pc_on d hd a ha ba
      have h3 := pc_on (d + 2 ^ a) hda b hb bb'
      rw [hx]; omega
theorem fewest_pairs {f t} (h : Lev f t 127) : 7 ≤ t + mp f 127 := by
  have := lev_pairs f t 127 h
  rwa [show pc 127 = 7 by decide] at this
end Mine
end
section
open PySem PyProof.Rows PySem.Calls
set_option maxRecDepth 10000
set_option linter.unusedVariables false
set_option linter.unusedSimpArgs false
namespace Mine
theorem cov_iff {f : Nat → Nat → Bool} {a b : Nat} : cov f a b = true ↔ f a b = true ∧ ∀ c, c < 7 → f a c = true → f c b = false := by
  unfold cov
  simp only [Bool.and_eq_true, Bool.not_eq_true', List.any_eq_false, List.mem_range]
  refine and_congr Iff.rfl ⟨fun h c hc h1 => ?_, fun h c hc => ?_⟩
  · have := h c hc
    simpa [h1] using this
  · intro q
    rw [h c hc q.1] at q; exact absurd q.2 (by simp)
theorem tie_mem {f : Nat → Nat → Bool} {p : Nat × Nat} : p ∈ tieL f ↔ p.1 < 7 ∧ p.2 < 7 ∧ cov f p.1 p.2 = true := by
  unfold tieL
  obtain ⟨a, b⟩ := p
  simp only [List.mem_flatMap, List.mem_map, List.mem_filter, List.mem_range, Prod.mk.injEq]
  constructor
  · rintro ⟨a', h1, b', ⟨h2, h3⟩, rfl, rfl⟩; exact ⟨h1, h2, h3⟩
  · rintro ⟨h1, h2, h3⟩; exact ⟨a, h1, b, ⟨h2, h3⟩, rfl, rfl⟩
theorem cov_or {f : Nat → Nat → Bool} {a b : Nat} (h : f a b = true) (hn : ¬ cov f a b = true) : ∃ c, c < 7 ∧ f a c = true ∧ f c b = true := by
  rw [cov_iff] at hn
  false_or_by_contra
  rename_i q
  refine hn ⟨h, fun c hc h1 => ?_⟩
  cases e : f c b with
  | false => rfl
  | true => exact absurd ⟨c, hc, h1, e⟩ q
theorem Order.irr {f} (O : Order f) {a : Nat} (ha : a < 7) : f a a = false := by
  obtain ⟨r, hr⟩ := O.rank
  cases e : f a a with
  | false => rfl
  | true => have := hr a a ha ha e; omega
/-- the last tie on a way -/
theorem last_tie {f} (O : Order f) {a b : Nat} (ha : a < 7) (hb : b < 7) (h : f a b = true) : ∃ c, c < 7 ∧ cov f c b = true ∧ (a = c ∨ f a c = true) := by
  obtain ⟨r, hr⟩ := O.rank
  have key : ∀ n a, a < 7 → f a b = true → r b - r a = n → ∃ c, c < 7 ∧ cov f c b = true ∧ (a = c ∨ f a c = true) := fun n => by
    induction n using Nat.strongRecOn with
    | _ n ih =>
      intro a ha h hn
      by_cases hc : cov f a b = true
      · exact ⟨a, ha, hc, .inl rfl⟩
      · obtain ⟨c, hc7, h1, h2⟩ := cov_or h hc
        have r1 := hr a c ha hc7 h1
        have r2 := hr c b hc7 hb h2
        obtain ⟨c', q1, q2, q3⟩ := ih (r b - r c) (by omega) c hc7 h2 rfl
        refine ⟨c', q1, q2, .inr ?_⟩
        rcases q3 with q3 | q3
        · exact q3 ▸ h1
        · exact O.trans a c c' ha hc7 q1 h1 q3
  exact key _ a ha h rfl
theorem first_tie {f} (O : Order f) {a b : Nat} (ha : a < 7) (hb : b < 7) (h : f a b = true) : ∃ c, c < 7 ∧ cov f a c = true ∧ (c = b ∨ f c b = true) := by
  obtain ⟨r, hr⟩ := O.rank
  have key : ∀ n b, b < 7 → f a b = true → r b - r a = n → ∃ c, c < 7 ∧ cov f a c = true ∧ (c = b ∨ f c b = true) := fun n => by
    induction n using Nat.strongRecOn with
    | _ n ih =>
      intro b hb h hn
      by_cases hc : cov f a b = true
      · exact ⟨b, hb, hc, .inl rfl⟩
      · obtain ⟨c, hc7, h1, h2⟩ := cov_or h hc
        have r1 := hr a c ha hc7 h1
        have r2 := hr c b hc7 hb h2
        obtain ⟨c', q1, q2, q3⟩ := ih (r c - r a) (by omega) c hc7 h1 rfl
        refine ⟨c', q1, q2, .inr ?_⟩
        rcases q3 with q3 | q3
        · exact q3 ▸ h2
        · exact O.trans c' c b q1 hc7 hb q3 h2
  exact key _ b hb h rfl
theorem ties_tieL {f} (O : Order f) : Ties (tieL f) where
  lt := fun p hp => ⟨(tie_mem.mp hp).1, (tie_mem.mp hp).2.1⟩
  len := by have := tie_len f 7; unfold tieL; omega
  irr := fun p hp e => by
    have h := tie_mem.mp hp
    have := (cov_iff.mp h.2.2).1
    rw [← e, O.irr h.1] at this; cases this
theorem cnt_zero {D ts v} : cnt (remL D ts) v = 0 ↔ ∀ p ∈ ts, p.2 = v → p.1 ∈ D := by
  unfold cnt remL
  rw [List.length_eq_zero_iff, List.filter_filter, List.filter_eq_nil_iff]
  constructor
  · intro h p hp e
    have := h p hp
    simp only [Bool.and_eq_true, beq_iff_eq, Bool.not_eq_true', not_and, Bool.not_eq_false] at this
    exact List.contains_iff_mem.mp (this e)
  · intro h p hp
    simp only [Bool.and_eq_true, beq_iff_eq, Bool.not_eq_true', not_and, Bool.not_eq_false]
    intro e
    exact List.contains_iff_mem.mpr (h p hp e)
theorem ready_iff {f D v} : v ∈ readyL (tieL f) D ↔ v < 7 ∧ v ∉ D ∧ ∀ c, c < 7 → cov f c v = true → c ∈ D := by
  rw [readyL_mem, cnt_zero]
  constructor
  · rintro ⟨h1, h2, h3⟩; exact ⟨h1, h2, fun c hc hv => h3 (c, v) (tie_mem.mpr ⟨hc, h1, hv⟩) rfl⟩
  · rintro ⟨h1, h2, h3⟩
    refine ⟨h1, h2, fun p hp e => ?_⟩
    have := tie_mem.mp hp
    exact h3 p.1 this.1 (e ▸ this.2.2)
/-- one hour: the first, and perhaps a second -/
theorem top_cases {lab R h} (H : TopTwo lab R h) (hne : R ≠ []) : ∃ x ∈ R, (h = [x] ∧ ∀ v ∈ R, v = x) ∨ ∃ y ∈ R, h = [x, y] ∧ lab y < lab x ∧ ∀ v ∈ R, v = x ∨ v = y ∨ lab v < lab y := by
  obtain ⟨R', h1, h2, rfl⟩ := H
  match R', h1, h2 with
  | [], h1, _ => exact absurd h1.symm.eq_nil hne
  | [x], h1, _ => exact ⟨x, h1.mem_iff.mp (by simp), .inl ⟨rfl, fun v hv => by have := h1.mem_iff.mpr hv; simpa using this⟩⟩
  | x :: y :: r, h1, h2 =>
    refine ⟨x, h1.mem_iff.mp (by simp), .inr ⟨y, h1.mem_iff.mp (by simp), rfl, ?_, fun v hv => ?_⟩⟩
    · exact (List.pairwise_cons.mp h2).1 y (by simp)
    · have := h1.mem_iff.mpr hv
      rcases List.mem_cons.mp this with e | e
      · exact .inl e
      rcases List.mem_cons.mp e with e | e
      · exact .inr (.inl e)
      · exact .inr (.inr ((List.pairwise_cons.mp (List.pairwise_cons.mp h2).2).1 v e))
theorem flat_uniq {hs : List (List Nat)} (hn : hs.flatten.Nodup) {i j : Nat} {x y : List Nat} {v : Nat} (hi : hs[i]? = some x) (hj : hs[j]? = some y) (hx : v ∈ x) (hy : v ∈ y) : i = j := by
  have h2 := (List.pairwise_flatten.mp hn).2
  rw [List.pairwise_iff_getElem] at h2
  obtain ⟨li, ei⟩ := List.getElem?_eq_some_iff.mp hi
  obtain ⟨lj, ej⟩ := List.getElem?_eq_some_iff.mp hj
  rcases Nat.lt_trichotomy i j with h | h | h
  · exact absurd rfl (h2 i j li lj h v (ei ▸ hx) v (ej ▸ hy))
  · exact h
  · exact absurd rfl (h2 j i lj li h v (ej ▸ hy) v (ei ▸ hx))
def Dn (hs : List (List Nat)) (i : Nat) : List Nat := (hs.take i).flatten
theorem Dn_succ {hs : List (List Nat)} {i : Nat} {h : List Nat} (hi : hs[i]? = some h) : Dn hs (i + 1) = Dn hs i ++ h := by
  unfold Dn
  rw [List.take_add_one, hi]; simp
theorem Dn_mem {hs : List (List Nat)} {i v : Nat} : v ∈ Dn hs i ↔ ∃ j h, j < i ∧ hs[j]? = some h ∧ v ∈ h := by
  unfold Dn
  rw [List.mem_flatten]
  constructor
  · rintro ⟨h, hm, hv⟩
    obtain ⟨j, hj⟩ := List.mem_iff_getElem?.mp hm
    rw [List.getElem?_take] at hj
    split at hj
    · rename_i q; exact ⟨j, h, q, hj, hv⟩
    · cases hj
  · rintro ⟨j, h, q, hj, hv⟩
    exact ⟨h, List.mem_iff_getElem?.mpr ⟨j, by rw [List.getElem?_take, if_pos q]; exact hj⟩, hv⟩
theorem Dn_all (hs : List (List Nat)) : Dn hs hs.length = hs.flatten := by unfold Dn; rw [List.take_length]
section
variable {f : Nat → Nat → Bool} {lab : Nat → Nat} {hs : List (List Nat)}
theorem run_hour (H : Run (tieL f) lab hs) {i h} (hi : hs[i]? = some h) : h ≠ [] ∧ h.length ≤ 2 ∧ h.Nodup ∧ ∀ v ∈ h, v ∈ readyL (tieL f) (Dn hs i) := by
  obtain ⟨x, hx, q⟩ := top_cases (H.top i h hi) (H.ne i h hi)
  rcases q with ⟨rfl, _⟩ | ⟨y, hy, rfl, hl, _⟩
  · exact ⟨by simp, by simp, by simp, fun v hv => by simp at hv; exact hv ▸ hx⟩
  · refine ⟨by simp, by simp, ?_, fun v hv => ?_⟩
    · have : x ≠ y := fun e => by subst e; omega
      simp [this]
    · simp at hv
      rcases hv with e | e
      · exact e ▸ hx
      · exact e ▸ hy
theorem run_nd (H : Run (tieL f) lab hs) : ∀ i, i ≤ hs.length → (Dn hs i).Nodup ∧ ∀ v ∈ Dn hs i, v < 7
  | 0, _ => by simp [Dn]
  | i + 1, hi => by
    have ih := run_nd H i (by omega)
    have hh : hs[i]? = some hs[i] := by simp
    obtain ⟨_, _, h3, h4⟩ := run_hour H hh
    rw [Dn_succ hh]
    refine ⟨List.nodup_append.mpr ⟨ih.1, h3, fun a ha b hb e => ?_⟩, fun v hv => ?_⟩
    · subst e
      exact (ready_iff.mp (h4 a hb)).2.1 ha
    · rcases List.mem_append.mp hv with q | q
      · exact ih.2 v q
      · exact (ready_iff.mp (h4 v q)).1
theorem run_closed (O : Order f) (H : Run (tieL f) lab hs) : ∀ i, i ≤ hs.length → ∀ v ∈ Dn hs i, ∀ a, a < 7 → f a v = true → a ∈ Dn hs i
  | 0, _, v, hv => by simp [Dn] at hv
  | i + 1, hi, v, hv => fun a ha hav => by
    have ih := run_closed O H i (by omega)
    have hh : hs[i]? = some hs[i] := by simp
    obtain ⟨_, _, h3, h4⟩ := run_hour H hh
    rw [Dn_succ hh] at hv ⊢
    rcases List.mem_append.mp hv with q | q
    · exact List.mem_append_left _ (ih v q a ha hav)
    · have hr := ready_iff.mp (h4 v q)
      obtain ⟨c, hc7, hc, hac⟩ := last_tie O ha hr.1 hav
      have := hr.2.2 c hc7 hc
      rcases hac with e | e
      · exact List.mem_append_left _ (e ▸ this)
      · exact List.mem_append_left _ (ih c this a ha e)
theorem run_pred (O : Order f) (H : Run (tieL f) lab hs) {i h v a} (hi : hs[i]? = some h) (hv : v ∈ h) (ha : a < 7) (hav : f a v = true) : a ∈ Dn hs i := by
  obtain ⟨_, _, h3, h4⟩ := run_hour H hi
  have hr := ready_iff.mp (h4 v hv)
  obtain ⟨c, hc7, hc, hac⟩ := last_tie O ha hr.1 hav
  have := hr.2.2 c hc7 hc
  have hl := (List.getElem?_eq_some_iff.mp hi).1
  rcases hac with e | e
  · exact e ▸ this
  · exact run_closed O H i (by omega) c this a ha e
theorem run_all (O : Order f) (H : Run (tieL f) lab hs) : ∀ v, v < 7 → v ∈ hs.flatten := by
  obtain ⟨r, hr⟩ := O.rank
  have key : ∀ n v, v < 7 → r v = n → v ∈ hs.flatten := fun n => by
    induction n using Nat.strongRecOn with
    | _ n ih =>
      intro v hv hn
      false_or_by_contra
      rename_i q
      have : v ∈ readyL (tieL f) hs.flatten := ready_iff.mpr ⟨hv, q, fun c hc hcv => ih (r c) (by have := hr c v hc hv (cov_iff.mp hcv).1; omega) c hc rfl⟩
      rw [H.fin] at this; simp at this
  exact fun v hv => key _ v hv rfl
theorem run_sched (O : Order f) (H : Run (tieL f) lab hs) : Sched f hs where
  lt := fun h hh v hv => by
    have := (run_nd H hs.length (Nat.le_refl _)).2
    rw [Dn_all] at this
    exact this v (List.mem_flatten.mpr ⟨h, hh, hv⟩)
  nd := by have := (run_nd H hs.length (Nat.le_refl _)).1; rwa [Dn_all] at this
  all := run_all O H
  ord := fun a b ha hb hab i j x y hx hax hy hby => by
    have nd : hs.flatten.Nodup := by have := (run_nd H hs.length (Nat.le_refl _)).1; rwa [Dn_all] at this
    obtain ⟨k, h, hk, hh, hah⟩ := Dn_mem.mp (run_pred O H hy hby ha hab)
    have := flat_uniq nd hx hh hax hah
    omega
  len := by
    have h1 := run_nd H hs.length (Nat.le_refl _)
    rw [Dn_all] at h1
    have h2 := pigeon 7 _ h1.1 h1.2
    have h3 : ∀ hs : List (List Nat), (∀ h ∈ hs, h ≠ []) → hs.length ≤ hs.flatten.length := fun hs => by
      induction hs with
      | nil => intro _; simp
      | cons x r ih =>
        intro h
        have := ih fun y hy => h y (by simp [hy])
        have hx := List.length_pos_iff.mpr (h x (by simp))
        rw [List.flatten_cons, List.length_append, List.length_cons]; omega
    have := h3 hs fun h hh => by
      obtain ⟨i, hi⟩ := List.mem_iff_getElem?.mp hh
      exact (run_hour H hi).1
    omega
def mk (D : List Nat) : Nat := (D.map fun a => 2 ^ a).sum
theorem mk_bit : ∀ D : List Nat, D.Nodup → (∀ v ∈ D, v < 7) → mk D < 128 ∧ ∀ v, v < 7 → bit (mk D) v = D.contains v
  | [], _, _ => ⟨by decide, fun v _ => by rw [show mk [] = 0 from rfl, bit_zero]; rfl⟩
  | x :: r, hn, hl => by
    obtain ⟨h1, h2⟩ := List.nodup_cons.mp hn
    obtain ⟨i1, i2⟩ := mk_bit r h2 fun v hv => hl v (by simp [hv])
    have hx := hl x (by simp)
    have hb : bit (mk r) x = false := by rw [i2 x hx]; simpa using h1
    have e : mk (x :: r) = mk r + 2 ^ x := by simp [mk]; omega
    rw [e]
    refine ⟨bit_add _ i1 x hx hb, fun v hv => ?_⟩
    rw [bit_on i1 hx hv hb, i2 v hv, List.contains_cons, Bool.or_comm]
theorem mk_append (D E : List Nat) : mk (D ++ E) = mk D + mk E := by simp [mk]
theorem run_lev (O : Order f) (H : Run (tieL f) lab hs) : ∀ i, i ≤ hs.length → Lev f i (mk (Dn hs i))
  | 0, _ => by show mk (Dn hs 0) = 0; simp [Dn, mk]
  | i + 1, hi => by
    have hh : hs[i]? = some hs[i] := by simp
    generalize hs[i] = h at hh
    have nd := run_nd H i (by omega)
    have hb := mk_bit _ nd.1 nd.2
    have hrd : ∀ v ∈ h, v < 7 ∧ rdy f (mk (Dn hs i)) v = true := fun v hv => by
      have hr := ready_iff.mp ((run_hour H hh).2.2.2 v hv)
      refine ⟨hr.1, rdy_iff.mpr ⟨?_, fun a ha hav => ?_⟩⟩
      · rw [hb.2 v hr.1]; simpa using hr.2.1
      · rw [hb.2 a ha]; simpa using run_pred O H hh hv ha hav
    refine ⟨_, run_lev O H i (by omega), ?_⟩
    rw [Dn_succ hh, mk_append]
    obtain ⟨x, hx, q⟩ := top_cases (H.top i h hh) (H.ne i h hh)
    rcases q with ⟨rfl, _⟩ | ⟨y, hy, rfl, hl, _⟩
    · exact ⟨x, (hrd x (by simp)).1, (hrd x (by simp)).2, .inl (by simp [mk])⟩
    · have hxy : x ≠ y := fun e => by subst e; omega
      rcases Nat.lt_or_ge x y with q | q
      · exact ⟨x, (hrd x (by simp)).1, (hrd x (by simp)).2, .inr ⟨y, (hrd y (by simp)).1, (hrd y (by simp)).2, q, by simp [mk]; omega⟩⟩
      · exact ⟨y, (hrd y (by simp)).1, (hrd y (by simp)).2, .inr ⟨x, (hrd x (by simp)).1, (hrd x (by simp)).2, by omega, by simp [mk]; omega⟩⟩
theorem run_full (O : Order f) (H : Run (tieL f) lab hs) : Lev f hs.length 127 := by
  have h := run_lev O H hs.length (Nat.le_refl _)
  have nd := run_nd H hs.length (Nat.le_refl _)
  have hb := mk_bit _ nd.1 nd.2
  rw [Dn_all] at *
  have key : ∀ n, n < 128 → (∀ v, v < 7 → bit n v = true) → n = 127 := by decide +kernel
  rwa [key _ hb.1 fun v hv => by rw [hb.2 v hv]; simpa using run_all O H v hv] at h
end
end Mine
end
section
open PySem PyProof.Rows PySem.Calls
set_option maxRecDepth 10000
set_option linter.unusedVariables false
set_option linter.unusedSimpArgs false
namespace Mine
/-- hours filled by labels of Coffman and Graham's -/
structure CG (f : Nat → Nat → Bool) (lab : Nat → Nat) (T : Nat) (top : Nat → Nat) (sec : Nat → Option Nat) (sg : Nat → Nat) : Prop where
  O : Order f
  pos : ∀ v, v < 7 → 1 ≤ lab v
  anti : ∀ u v, u < 7 → v < 7 → f u v = true → lab v < lab u
  inj : ∀ u v, u < 7 → v < 7 → lab u = lab v → u = v
  at' : ∀ v, v < 7 → sg v < T ∧ (v = top (sg v) ∨ sec (sg v) = some v)
  top7 : ∀ s, s < T → top s < 7 ∧ sg (top s) = s
  sec7 : ∀ s, s < T → ∀ v, sec s = some v → v < 7 ∧ sg v = s ∧ lab v < lab (top s)
  ord : ∀ u v, u < 7 → v < 7 → f u v = true → sg u < sg v
  ready : ∀ s, s < T → ∀ v, v < 7 → s < sg v → (∀ p, p < 7 → f p v = true → sg p < s) → ∃ w, sec s = some w ∧ lab v < lab w
  lex : ∀ u t, u < 7 → t < 7 → lab t < lab u → ∀ x, x < 7 → cov f t x = true → cov f u x = false → ∃ y, y < 7 ∧ lab x < lab y ∧ cov f u y ≠ cov f t y
def slb (lab : Nat → Nat) (sec : Nat → Option Nat) (s : Nat) : Nat := match sec s with
  | some w => lab w
  | none => 0
def bk (lab : Nat → Nat) (T : Nat) (top : Nat → Nat) (sec : Nat → Option Nat) : Nat → Nat
  | 0 => T - 1
  | k + 1 => if slb lab sec (T - 1 - (k + 1)) < lab (top (bk lab T top sec k)) then T - 1 - (k + 1) else bk lab T top sec k
def blk (lab : Nat → Nat) (T : Nat) (top : Nat → Nat) (sec : Nat → Option Nat) (s : Nat) : Nat := bk lab T top sec (T - 1 - s)
section
variable {f : Nat → Nat → Bool} {lab : Nat → Nat} {T : Nat} {top : Nat → Nat} {sec : Nat → Option Nat} {sg : Nat → Nat}
theorem blk_last (h : 0 < T) : blk lab T top sec (T - 1) = T - 1 := by unfold blk; rw [Nat.sub_self]; rfl
theorem blk_step {s : Nat} (h : s + 1 < T) : blk lab T top sec s = if slb lab sec s < lab (top (blk lab T top sec (s + 1))) then s else blk lab T top sec (s + 1) := by
  unfold blk
  have e : T - 1 - s = (T - 1 - (s + 1)) + 1 := by omega
  rw [e]
  show (if slb lab sec (T - 1 - ((T - 1 - (s + 1)) + 1)) < _ then T - 1 - ((T - 1 - (s + 1)) + 1) else _) = _
  rw [show T - 1 - ((T - 1 - (s + 1)) + 1) = s by omega]
theorem blk_ok : ∀ n s, T - s = n → s < T → s ≤ blk lab T top sec s ∧ blk lab T top sec s < T ∧ ∀ s', s ≤ s' → s' ≤ blk lab T top sec s → blk lab T top sec s' = blk lab T top sec s
  | 0, s, h, hs => by omega
  | n + 1, s, h, hs => by
    by_cases e : s + 1 < T
    · have ih := blk_ok n (s + 1) (by omega) e
      have st := blk_step (lab := lab) (top := top) (sec := sec) e
      by_cases q : slb lab sec s < lab (top (blk lab T top sec (s + 1)))
      · rw [if_pos q] at st
        rw [st]
        refine ⟨Nat.le_refl _, hs, fun s' h1 h2 => ?_⟩
        have : s' = s := by omega
        rw [this, st]
      · rw [if_neg q] at st
        rw [st]
        refine ⟨by omega, ih.2.1, fun s' h1 h2 => ?_⟩
        by_cases e2 : s' = s
        · rw [e2, st]
        · exact ih.2.2 s' (by omega) h2
    · have : s = T - 1 := by omega
      subst this
      have := blk_last (lab := lab) (top := top) (sec := sec) (show 0 < T by omega)
      rw [this]
      refine ⟨Nat.le_refl _, hs, fun s' h1 h2 => ?_⟩
      have : s' = T - 1 := by omega
      rw [this, blk_last (by omega)]
theorem blk_le {s} (hs : s < T) : s ≤ blk lab T top sec s := (blk_ok _ s rfl hs).1
theorem blk_lt {s} (hs : s < T) : blk lab T top sec s < T := (blk_ok _ s rfl hs).2.1
theorem blk_mid {s s'} (hs : s < T) (h1 : s ≤ s') (h2 : s' ≤ blk lab T top sec s) : blk lab T top sec s' = blk lab T top sec s := (blk_ok _ s rfl hs).2.2 s' h1 h2
theorem blk_idem {s} (hs : s < T) : blk lab T top sec (blk lab T top sec s) = blk lab T top sec s := blk_mid hs (blk_le hs) (Nat.le_refl _)
theorem blk_chain {s} (hs : s + 1 < T) (h : blk lab T top sec s = s) : slb lab sec s < lab (top (blk lab T top sec (s + 1))) := by
  have st := blk_step (lab := lab) (top := top) (sec := sec) hs
  by_cases q : slb lab sec s < lab (top (blk lab T top sec (s + 1)))
  · exact q
  · rw [if_neg q, h] at st
    have := blk_le (lab := lab) (top := top) (sec := sec) hs
    omega
theorem blk_in {s} (hs : s < T) (h : blk lab T top sec s ≠ s) : s + 1 < T ∧ lab (top (blk lab T top sec s)) ≤ slb lab sec s ∧ blk lab T top sec (s + 1) = blk lab T top sec s := by
  by_cases e : s + 1 < T
  · have st := blk_step (lab := lab) (top := top) (sec := sec) e
    by_cases q : slb lab sec s < lab (top (blk lab T top sec (s + 1)))
    · rw [if_pos q] at st; exact absurd st h
    · rw [if_neg q] at st
      exact ⟨e, by rw [st]; omega, st.symm⟩
  · have : s = T - 1 := by omega
    subst this
    exact absurd (blk_last (by omega)) h
/-- from a chain's slot none leads over it -/
theorem blk_under {s c} (hs : s < T) (hc : c < T) (hch : blk lab T top sec c = c) (h : s ≤ c) : blk lab T top sec s ≤ c := by
  false_or_by_contra
  rename_i q
  have := blk_mid (lab := lab) (top := top) (sec := sec) hs h (by omega)
  omega
def rB (lab : Nat → Nat) (T : Nat) (top : Nat → Nat) (sec : Nat → Option Nat) (sg : Nat → Nat) (v : Nat) : Bool := sec (sg v) == some v && blk lab T top sec (sg v) == sg v
theorem rB_iff {v} : rB lab T top sec sg v = true ↔ sec (sg v) = some v ∧ blk lab T top sec (sg v) = sg v := by unfold rB; simp
theorem rB_not {v} : rB lab T top sec sg v = false ↔ ¬ (sec (sg v) = some v ∧ blk lab T top sec (sg v) = sg v) := by rw [← rB_iff]; simp
theorem CG.top_r (H : CG f lab T top sec sg) {s} (hs : s < T) : rB lab T top sec sg (top s) = false := by
  rw [rB_not]
  rintro ⟨h, _⟩
  rw [(H.top7 s hs).2] at h
  have := (H.sec7 s hs _ h).2.2
  omega
theorem CG.low (H : CG f lab T top sec sg) {v} (hv : v < 7) (hr : rB lab T top sec sg v = false) : lab (top (blk lab T top sec (sg v))) ≤ lab v ∧ (v ≠ top (blk lab T top sec (sg v)) → lab (top (blk lab T top sec (sg v))) < lab v) := by
  obtain ⟨h1, h2⟩ := H.at' v hv
  by_cases e : blk lab T top sec (sg v) = sg v
  · have : v = top (sg v) := h2.resolve_right fun q => rB_not.mp hr ⟨q, e⟩
    rw [e, ← this]
    exact ⟨Nat.le_refl _, fun q => absurd rfl q⟩
  · obtain ⟨q1, q2, q3⟩ := blk_in h1 e
    have hne : v ≠ top (blk lab T top sec (sg v)) := fun q => by
      have := (H.top7 _ (blk_lt (lab := lab) (top := top) (sec := sec) h1)).2
      rw [← q] at this; omega
    have hle : lab (top (blk lab T top sec (sg v))) ≤ lab v := by
      rcases h2 with h2 | h2
      · unfold slb at q2
        cases hs : sec (sg v) with
        | none =>
          rw [hs] at q2
          have := H.pos _ (H.top7 _ (blk_lt (lab := lab) (top := top) (sec := sec) h1)).1
          simp at q2; omega
        | some w =>
          rw [hs] at q2
          have := (H.sec7 _ h1 w hs).2.2
          rw [← h2] at this
          simp at q2; omega
      · unfold slb at q2
        rw [h2] at q2
        exact q2
    refine ⟨hle, fun _ => ?_⟩
    have : lab v ≠ lab (top (blk lab T top sec (sg v))) := fun q => hne (H.inj _ _ hv (H.top7 _ (blk_lt h1)).1 q)
    omega
/-- what is in a later block comes behind -/
theorem CG.blocks (H : CG f lab T top sec sg) : ∀ n c, T - c = n → c < T → blk lab T top sec c = c → ∀ u v, u < 7 → v < 7 → rB lab T top sec sg u = false → rB lab T top sec sg v = false → blk lab T top sec (sg u) = c → c < blk lab T top sec (sg v) → f u v = true := fun n => by
  induction n using Nat.strongRecOn with
  | _ n ih =>
    intro c hn hc hch
    by_cases hT : c + 1 < T
    case neg =>
      intro u v hu hv _ _ _ h
      have := blk_lt (lab := lab) (top := top) (sec := sec) (H.at' v hv).1
      omega
    case pos =>
    have hb1 := blk_le (lab := lab) (top := top) (sec := sec) hT
    have hb2 := blk_lt (lab := lab) (top := top) (sec := sec) hT
    have hb3 := blk_idem (lab := lab) (top := top) (sec := sec) hT
    have hbm := fun s' => blk_mid (lab := lab) (top := top) (sec := sec) (s' := s') hT
    have hsl := blk_chain (lab := lab) (top := top) (sec := sec) hT hch
    generalize hb : blk lab T top sec (c + 1) = b at hb1 hb2 hb3 hbm hsl
    have tc := H.top7 c hc
    have tb := H.top7 b hb2
    have rtb := H.top_r hb2
    have ihb := ih (T - b) (by omega) b rfl hb2 hb3
    have later : ∀ v, v < 7 → c < blk lab T top sec (sg v) → c < sg v := fun v hv h => by
      rcases Nat.lt_or_ge c (sg v) with q | q
      · exact q
      · have := blk_under (lab := lab) (top := top) (sec := sec) (H.at' v hv).1 hc hch q
        omega
    have split2 : ∀ v, v < 7 → c < sg v → blk lab T top sec (sg v) = b ∨ b < blk lab T top sec (sg v) := fun v hv h => by
      rcases Nat.lt_or_ge b (sg v) with q | q
      · have := blk_le (lab := lab) (top := top) (sec := sec) (H.at' v hv).1
        exact .inr (by omega)
      · exact .inl (hbm (sg v) h q)
    have step1 : ∀ m v, sg v = m → v < 7 → rB lab T top sec sg v = false → blk lab T top sec (sg v) = b → f (top c) v = true := fun m => by
      induction m using Nat.strongRecOn with
      | _ m ihm =>
        intro v hm hv hr hbv
        have hlow := (H.low hv hr).1
        rw [hbv] at hlow
        have hcv := later v hv (by omega)
        have hvb := blk_le (lab := lab) (top := top) (sec := sec) (H.at' v hv).1
        rw [hbv] at hvb
        have hex : ∃ p, p < 7 ∧ f p v = true ∧ c ≤ sg p := by
          false_or_by_contra
          rename_i q
          obtain ⟨w, hw1, hw2⟩ := H.ready c hc v hv hcv fun p hp hf => by
            rcases Nat.lt_or_ge (sg p) c with h | h
            · exact h
            · exact absurd ⟨p, hp, hf, h⟩ q
          unfold slb at hsl
          rw [hw1] at hsl
          simp at hsl; omega
        obtain ⟨p, hp, hf, hcp⟩ := hex
        have ho := H.ord p v hp hv hf
        by_cases e : sg p = c
        · rcases (H.at' p hp).2 with q | q
          · rw [e] at q; rw [← q]; exact hf
          · rw [e] at q
            have := H.anti p v hp hv hf
            unfold slb at hsl
            rw [q] at hsl
            simp at hsl; omega
        · have hbp := hbm (sg p) (by omega) (by omega)
          have hrp : rB lab T top sec sg p = false := rB_not.mpr fun q => by omega
          have := ihm (sg p) (by omega) p rfl hp hrp hbp
          exact H.O.trans _ _ _ tc.1 hp hv this hf
    have step2 : ∀ v, v < 7 → rB lab T top sec sg v = false → c < blk lab T top sec (sg v) → f (top c) v = true := fun v hv hr h => by
      rcases split2 v hv (later v hv h) with q | q
      · exact step1 _ v rfl hv hr q
      · have h1 := ihb (top b) v tb.1 hv rtb hr (by rw [tb.2]; exact hb3) q
        have h2 := step1 _ (top b) rfl tb.1 rtb (by rw [tb.2]; exact hb3)
        exact H.O.trans _ _ _ tc.1 tb.1 hv h2 h1
    have succ : ∀ u, u < 7 → blk lab T top sec (sg u) = c → (∀ w, w < 7 → rB lab T top sec sg w = false → blk lab T top sec (sg w) = c → f u w = false) → ∀ w, w < 7 → f u w = true → lab (top b) ≤ lab w → rB lab T top sec sg w = false ∧ blk lab T top sec (sg w) = b := fun u hu hbu hno w hw huw hlw => by
      have ho := H.ord u w hu hw huw
      have hcu : c ≤ blk lab T top sec (sg w) := by
        have := blk_le (lab := lab) (top := top) (sec := sec) (H.at' w hw).1
        rcases Nat.lt_or_ge c (sg w) with q | q
        · omega
        · have := blk_mid (lab := lab) (top := top) (sec := sec) (H.at' u hu).1 (Nat.le_of_lt ho) (by omega)
          omega
      have hwT := (H.at' w hw).1
      have hrw : rB lab T top sec sg w = false := rB_not.mpr fun ⟨q1, q2⟩ => by
        have hlt : lab w < lab (top b) := by
          by_cases e : sg w = c
          · rw [e] at q1
            unfold slb at hsl
            rw [q1] at hsl
            exact hsl
          · have hbw : b ≤ sg w := by
              rcases split2 w hw (by omega) with q | q <;> omega
            have htop : lab (top (sg w)) ≤ lab (top b) := by
              by_cases e2 : sg w = b
              · rw [e2]; exact Nat.le_refl _
              · have hrt := H.top_r hwT
                have tw := H.top7 _ hwT
                have := ihb (top b) (top (sg w)) tb.1 tw.1 rtb hrt (by rw [tb.2]; exact hb3) (by rw [tw.2]; omega)
                exact Nat.le_of_lt (H.anti _ _ tb.1 tw.1 this)
            have := (H.sec7 _ hwT w q1).2.2
            omega
        omega
      refine ⟨hrw, ?_⟩
      by_cases e : blk lab T top sec (sg w) = c
      · have := hno w hw hrw e
        rw [huw] at this; cases this
      · have hcw : c < blk lab T top sec (sg w) := by omega
        rcases split2 w hw (later w hw hcw) with q | q
        · exact q
        · have := ihb (top b) w tb.1 hw rtb hrw (by rw [tb.2]; exact hb3) q
          have := H.anti _ _ tb.1 hw this
          omega
    have step3 : ∀ m u, lab u = m → u < 7 → rB lab T top sec sg u = false → blk lab T top sec (sg u) = c → ∀ v, v < 7 → rB lab T top sec sg v = false → c < blk lab T top sec (sg v) → f u v = true := fun m => by
      induction m using Nat.strongRecOn with
      | _ m ihm =>
        intro u hm hu hr hbu
        by_cases hut : u = top c
        · rw [hut]; exact step2
        by_cases hno : ∃ w, w < 7 ∧ rB lab T top sec sg w = false ∧ blk lab T top sec (sg w) = c ∧ f u w = true
        · obtain ⟨w, hw, hrw, hbw, huw⟩ := hno
          have hl := H.anti u w hu hw huw
          intro v hv hrv hcv
          exact H.O.trans _ _ _ hu hw hv huw (ihm (lab w) (by omega) w rfl hw hrw hbw v hv hrv hcv)
        have hno' : ∀ w, w < 7 → rB lab T top sec sg w = false → blk lab T top sec (sg w) = c → f u w = false := fun w hw h1 h2 => by
          cases e : f u w with
          | false => rfl
          | true => exact absurd ⟨w, hw, h1, h2, e⟩ hno
        have hsu := succ u hu hbu hno'
        have hst := succ (top c) tc.1 (by rw [tc.2]; exact hch) fun w hw h1 h2 => by
          cases e : f (top c) w with
          | false => rfl
          | true =>
            have h3 := H.ord _ _ tc.1 hw e
            rw [tc.2] at h3
            have := blk_le (lab := lab) (top := top) (sec := sec) (H.at' w hw).1
            omega
        have hlu : lab (top c) < lab u := by
          have := (H.low hu hr).2
          rw [hbu] at this
          exact this hut
        -- all of the next block comes behind u
        have all : ∀ k x, 7 * 0 + (List.range 7).foldl (fun a y => max a (lab y)) 0 - lab x = k → x < 7 → rB lab T top sec sg x = false → blk lab T top sec (sg x) = b → f u x = true := fun k => by
          induction k using Nat.strongRecOn with
          | _ k ihk =>
            intro x hk hx hrx hbx
            have hmax : ∀ y, y < 7 → lab y ≤ (List.range 7).foldl (fun a y => max a (lab y)) 0 := by
              have key : ∀ (l : List Nat) a, a ≤ l.foldl (fun a y => max a (lab y)) a ∧ ∀ y ∈ l, lab y ≤ l.foldl (fun a y => max a (lab y)) a := fun l => by
                induction l with
                | nil => intro a; simp
                | cons z r ih =>
                  intro a
                  rw [List.foldl_cons]
                  have := ih (max a (lab z))
                  refine ⟨by omega, fun y hy => ?_⟩
                  rcases List.mem_cons.mp hy with e | e
                  · subst e; omega
                  · exact this.2 y e
              exact fun y hy => (key _ 0).2 y (by simpa using hy)
            have big : ∀ y, y < 7 → rB lab T top sec sg y = false → blk lab T top sec (sg y) = b → lab x < lab y → f u y = true := fun y hy h1 h2 h3 =>
              ihk _ (by have := hmax y hy; omega) y rfl hy h1 h2
            cases hux : f u x with
            | true => rfl
            | false =>
              exfalso
              have hlx : lab (top b) ≤ lab x := by have := (H.low hx hrx).1; rwa [hbx] at this
              have htx := step1 _ x rfl hx hrx hbx
              -- x is a tie of top c
              have hcx : cov f (top c) x = true := cov_iff.mpr ⟨htx, fun z hz h1 => by
                cases h2 : f z x with
                | false => rfl
                | true =>
                  have hzx := H.anti z x hz hx h2
                  have := hst z hz h1 (by omega)
                  have huz := big z hz this.1 this.2 hzx
                  rw [H.O.trans _ _ _ hu hz hx huz h2] at hux; cases hux⟩
              have hcu : cov f u x = false := by
                cases e : cov f u x with
                | false => rfl
                | true => rw [(cov_iff.mp e).1] at hux; cases hux
              obtain ⟨y, hy, hxy, hne⟩ := H.lex u (top c) hu tc.1 hlu x hx hcx hcu
              apply hne
              rw [Bool.eq_iff_iff, cov_iff, cov_iff]
              constructor
              · rintro ⟨h1, h2⟩
                have hyb := hsu y hy h1 (by omega)
                refine ⟨step1 _ y rfl hy hyb.1 hyb.2, fun z hz h3 => ?_⟩
                cases h4 : f z y with
                | false => rfl
                | true =>
                  have hzy := H.anti z y hz hy h4
                  have hzb := hst z hz h3 (by omega)
                  have := h2 z hz (big z hz hzb.1 hzb.2 (by omega))
                  rw [h4] at this; cases this
              · rintro ⟨h1, h2⟩
                have hyb := hst y hy h1 (by omega)
                refine ⟨big y hy hyb.1 hyb.2 hxy, fun z hz h3 => ?_⟩
                cases h4 : f z y with
                | false => rfl
                | true =>
                  have hzy := H.anti z y hz hy h4
                  have hzb := hsu z hz h3 (by omega)
                  have := h2 z hz (step1 _ z rfl hz hzb.1 hzb.2)
                  rw [h4] at this; cases this
        intro v hv hrv hcv
        rcases split2 v hv (later v hv hcv) with q | q
        · exact all _ v rfl hv hrv q
        · have h1 := ihb (top b) v tb.1 hv rtb hrv (by rw [tb.2]; exact hb3) q
          have h2 := all _ (top b) rfl tb.1 rtb (by rw [tb.2]; exact hb3)
          exact H.O.trans _ _ _ hu tb.1 hv h2 h1
    exact fun u v hu hv hru hrv hbu hcv => step3 _ u rfl hu hru hbu v hv hrv hcv
end
end Mine
end
section
open PySem PyProof.Rows PySem.Calls
set_option maxRecDepth 10000
set_option linter.unusedVariables false
set_option linter.unusedSimpArgs false
namespace Mine
theorem sum_add {α : Type} (g h : α → Nat) : ∀ l : List α, (l.map fun c => g c + h c).sum = (l.map g).sum + (l.map h).sum
  | [] => rfl
  | x :: r => by simp only [List.map_cons, List.sum_cons, sum_add g h r]; omega
theorem sum_le {α : Type} {g h : α → Nat} : ∀ {l : List α}, (∀ c ∈ l, g c ≤ h c) → (l.map g).sum ≤ (l.map h).sum
  | [], _ => Nat.le_refl _
  | x :: r, hl => by
    simp only [List.map_cons, List.sum_cons]
    have := sum_le (l := r) fun c hc => hl c (by simp [hc])
    have := hl x (by simp)
    omega
theorem sum_one (k : Nat) : ∀ T, k < T → ((List.range T).map fun c => if k = c then 1 else 0).sum = 1
  | 0, h => by omega
  | T + 1, h => by
    rw [List.range_succ, List.map_append, List.sum_append]
    by_cases e : k = T
    · subst e
      have : ((List.range k).map fun c => if k = c then 1 else 0).sum = 0 := by
        have h2 : ((List.range k).map fun c => if k = c then 1 else 0) = (List.range k).map fun _ => 0 := List.map_congr_left fun c hc => if_neg (by have := List.mem_range.mp hc; omega)
        rw [h2]
        have : ∀ l : List Nat, (l.map fun _ => 0).sum = 0 := fun l => by induction l with | nil => rfl | cons x r ih => simp [ih]
        exact this _
      rw [this]; simp
    · rw [sum_one k T (by omega)]; simp [e]
theorem part {α : Type} (key : α → Nat) (T : Nat) : ∀ l : List α, (∀ x ∈ l, key x < T) → ((List.range T).map fun c => (l.filter fun x => key x == c).length).sum = l.length
  | [], _ => by
    have : ∀ l : List Nat, (l.map fun c => (([] : List α).filter fun x => key x == c).length).sum = 0 := fun l => by induction l with | nil => rfl | cons x r ih => simpa using ih
    exact this _
  | x :: r, h => by
    have ih := part key T r fun y hy => h y (by simp [hy])
    have e : ((List.range T).map fun c => ((x :: r).filter fun x => key x == c).length) = (List.range T).map fun c => (r.filter fun x => key x == c).length + if key x = c then 1 else 0 := List.map_congr_left fun c _ => by
      rw [List.filter_cons]
      by_cases q : key x = c <;> simp [q]
    rw [e, sum_add, ih, sum_one _ _ (h x (by simp))]; rfl
theorem sub_len : ∀ {a b : List Nat}, a.Nodup → (∀ x ∈ a, x ∈ b) → a.length ≤ b.length
  | [], _, _, _ => by simp
  | x :: r, b, hn, h => by
    obtain ⟨h1, h2⟩ := List.nodup_cons.mp hn
    have hx := h x (by simp)
    have := sub_len (a := r) (b := b.erase x) h2 fun y hy => by
      have : y ≠ x := fun e => h1 (e ▸ hy)
      exact (List.mem_erase_of_ne this).mpr (h y (by simp [hy]))
    have e := List.length_erase_of_mem hx
    have := List.length_pos_of_mem hx
    rw [List.length_cons]; omega
theorem ends_sub {l l' : List (Nat × Nat)} (h : l.Sublist l') : (ends l).Sublist (ends l') := by
  induction h with
  | slnil => exact List.Sublist.refl _
  | cons p _ ih => rw [ends_cons]; exact (ih.cons _).cons _
  | cons_cons p _ ih => rw [ends_cons, ends_cons]; exact (ih.cons_cons _).cons_cons _
theorem ends_len : ∀ l : List (Nat × Nat), (ends l).length = 2 * l.length
  | [] => rfl
  | p :: l => by rw [ends_cons, List.length_cons, List.length_cons, ends_len l, List.length_cons]; omega
theorem ends_pick (P : Nat → Bool) : ∀ l : List (Nat × Nat), (l.map fun p => if P p.1 = true then p.1 else p.2).Sublist (ends l)
  | [] => List.Sublist.refl _
  | p :: l => by
    rw [ends_cons, List.map_cons]
    have ih := ends_pick P l
    split
    · exact (ih.cons _).cons_cons _
    · exact (ih.cons_cons _).cons _
section
variable {f : Nat → Nat → Bool} {lab : Nat → Nat} {T : Nat} {top : Nat → Nat} {sec : Nat → Option Nat} {sg : Nat → Nat}
/-- the works of a block -/
def blE (lab : Nat → Nat) (T : Nat) (top : Nat → Nat) (sec : Nat → Option Nat) (sg : Nat → Nat) (c : Nat) : List Nat := ((List.range 7).filter fun v => !rB lab T top sec sg v).filter fun v => blk lab T top sec (sg v) == c
def blS (lab : Nat → Nat) (T : Nat) (top : Nat → Nat) (sec : Nat → Option Nat) (c : Nat) : List Nat := (List.range T).filter fun s => blk lab T top sec s == c
theorem mem_blE {c v} : v ∈ blE lab T top sec sg c ↔ v < 7 ∧ rB lab T top sec sg v = false ∧ blk lab T top sec (sg v) = c := by
  unfold blE
  rw [List.mem_filter, List.mem_filter, List.mem_range]
  simp only [Bool.not_eq_true', beq_iff_eq, and_assoc]
theorem mem_blS {c s} : s ∈ blS lab T top sec c ↔ s < T ∧ blk lab T top sec s = c := by unfold blS; simp
theorem CG.size (H : CG f lab T top sec sg) {c} (hc : c < T) (hch : blk lab T top sec c = c) : (blE lab T top sec sg c).length + 1 = 2 * (blS lab T top sec c).length := by
  have hcS : c ∈ blS lab T top sec c := mem_blS.mpr ⟨hc, hch⟩
  have hSn : (blS lab T top sec c).Nodup := List.Pairwise.filter _ List.nodup_range
  have hsec : ∀ s ∈ (blS lab T top sec c).erase c, ∃ w, sec s = some w ∧ (sec s).getD 0 = w ∧ w < 7 ∧ sg w = s ∧ lab w < lab (top s) ∧ s < T ∧ blk lab T top sec s = c ∧ s ≠ c := fun s hs => by
    obtain ⟨hne, hs⟩ := (hSn.mem_erase_iff).mp hs
    obtain ⟨h1, h2⟩ := mem_blS.mp hs
    obtain ⟨q1, q2, q3⟩ := blk_in (lab := lab) (top := top) (sec := sec) h1 (by omega)
    rw [h2] at q2
    have hp := H.pos _ (H.top7 c hc).1
    unfold slb at q2
    cases e : sec s with
    | none => rw [e] at q2; simp at q2; omega
    | some w =>
      have := H.sec7 s h1 w e
      exact ⟨w, rfl, rfl, this.1, this.2.1, this.2.2, h1, h2, hne⟩
  have hperm : (blE lab T top sec sg c).Perm ((blS lab T top sec c).map top ++ ((blS lab T top sec c).erase c).map fun s => (sec s).getD 0) := by
    refine (List.perm_ext_iff_of_nodup (List.Pairwise.filter _ (List.Pairwise.filter _ List.nodup_range)) ?_).mpr fun v => ?_
    · refine List.nodup_append.mpr ⟨?_, ?_, fun a ha b hb e => ?_⟩
      · refine List.pairwise_map.mpr (List.Pairwise.imp_of_mem (fun {a b} ha hb h q => ?_) hSn)
        have h1 := (H.top7 a (mem_blS.mp ha).1).2
        have h2 := (H.top7 b (mem_blS.mp hb).1).2
        rw [q] at h1; omega
      · refine List.pairwise_map.mpr (List.Pairwise.imp_of_mem (fun {a b} ha hb h q => ?_) (hSn.erase c))
        obtain ⟨w, _, e1, _, e2, _⟩ := hsec a ha
        obtain ⟨w', _, e1', _, e2', _⟩ := hsec b hb
        rw [e1, e1'] at q; rw [q] at e2; omega
      · subst e
        obtain ⟨s, hs, rfl⟩ := List.mem_map.mp ha
        obtain ⟨s', hs', e⟩ := List.mem_map.mp hb
        obtain ⟨w, _, e1, _, e2, e3, _⟩ := hsec s' hs'
        have := (H.top7 s (mem_blS.mp hs).1).2
        rw [e1] at e
        rw [← e] at this
        have : s = s' := by omega
        subst this
        rw [← e] at e3; omega
    · show v ∈ blE lab T top sec sg c ↔ _
      rw [mem_blE, List.mem_append, List.mem_map, List.mem_map]
      constructor
      · rintro ⟨hv, hr, hb⟩
        obtain ⟨h1, h2⟩ := H.at' v hv
        have hm : sg v ∈ blS lab T top sec c := mem_blS.mpr ⟨h1, hb⟩
        rcases h2 with h2 | h2
        · exact .inl ⟨_, hm, h2.symm⟩
        · have hne : sg v ≠ c := fun e => rB_not.mp hr ⟨h2, by rw [hb, e]⟩
          exact .inr ⟨_, (hSn.mem_erase_iff).mpr ⟨hne, hm⟩, by rw [h2]; rfl⟩
      · rintro (⟨s, hs, rfl⟩ | ⟨s, hs, rfl⟩)
        · obtain ⟨h1, h2⟩ := mem_blS.mp hs
          exact ⟨(H.top7 s h1).1, H.top_r h1, by rw [(H.top7 s h1).2, h2]⟩
        · obtain ⟨w, e0, e1, e2, e3, e4, e5, e6, e7⟩ := hsec s hs
          rw [e1]
          exact ⟨e2, rB_not.mpr fun ⟨_, q⟩ => by rw [e3, e6] at q; exact e7 q.symm, by rw [e3, e6]⟩
  rw [hperm.length_eq, List.length_append, List.length_map, List.length_map, List.length_erase_of_mem hcS]
  have := List.length_pos_of_mem hcS
  omega
/-- no more pairs than works less hours -/
theorem CG.pairs (H : CG f lab T top sec sg) {l : List (Nat × Nat)} (hl : Mt f l 127) : l.length + T ≤ 7 := by
  generalize hR : rB lab T top sec sg = R
  have hsplit : l.length = (l.filter fun p => !R p.1 && !R p.2).length + (l.filter fun p => !(!R p.1 && !R p.2)).length := by
    have : ∀ l : List (Nat × Nat), l.length = (l.filter fun p => !R p.1 && !R p.2).length + (l.filter fun p => !(!R p.1 && !R p.2)).length := fun l => by
      induction l with
      | nil => rfl
      | cons p r ih =>
        rw [List.filter_cons, List.filter_cons]
        generalize (!R p.1 && !R p.2) = b
        cases b
        · rw [if_neg (by simp), if_pos (by rfl), List.length_cons, List.length_cons]; omega
        · rw [if_pos rfl, if_neg (by simp), List.length_cons, List.length_cons]; omega
    exact this l
  have hA : (l.filter fun p => !(!R p.1 && !R p.2)).length ≤ ((List.range 7).filter R).length := by
    have h1 := ends_pick R (l.filter fun p => !(!R p.1 && !R p.2))
    have h2 := (h1.trans (ends_sub List.filter_sublist)).nodup hl.nd
    have := sub_len (b := (List.range 7).filter R) h2 fun x hx => by
      obtain ⟨p, hp, rfl⟩ := List.mem_map.mp hx
      obtain ⟨hp1, hp2⟩ := List.mem_filter.mp hp
      have i1 := hl.inn p.1 (mem_ends.mpr ⟨p, hp1, .inl rfl⟩)
      have i2 := hl.inn p.2 (mem_ends.mpr ⟨p, hp1, .inr rfl⟩)
      rw [List.mem_filter, List.mem_range]
      split
      · rename_i q; exact ⟨i1.1, q⟩
      · rename_i q
        have q' : R p.1 = false := by simpa using q
        rw [q'] at hp2
        exact ⟨i2.1, by simpa using hp2⟩
    rw [List.length_map] at this
    exact this
  have hpt := part (fun p : Nat × Nat => blk lab T top sec (sg p.1)) T (l.filter fun p => !R p.1 && !R p.2) fun p hp => by
    have i1 := hl.inn p.1 (mem_ends.mpr ⟨p, (List.mem_filter.mp hp).1, .inl rfl⟩)
    exact blk_lt (H.at' _ i1.1).1
  have hps := part (fun s => blk lab T top sec s) T (List.range T) fun s hs => blk_lt (by simpa using hs)
  have hpe := part (fun v => blk lab T top sec (sg v)) T ((List.range 7).filter fun v => !R v) fun v hv => blk_lt (H.at' _ (by simpa using (List.mem_filter.mp hv).1)).1
  have h7 : ((List.range 7).filter fun v => !R v).length + ((List.range 7).filter R).length = 7 := by
    have : ∀ l : List Nat, (l.filter fun v => !R v).length + (l.filter R).length = l.length := fun l => by
      induction l with
      | nil => rfl
      | cons p r ih =>
        rw [List.filter_cons, List.filter_cons]
        cases R p <;> simp <;> omega
    simpa using this (List.range 7)
  have hkey : ∀ c ∈ List.range T, ((l.filter fun p => !R p.1 && !R p.2).filter fun p => blk lab T top sec (sg p.1) == c).length + ((List.range T).filter fun s => blk lab T top sec s == c).length ≤ (((List.range 7).filter fun v => !R v).filter fun v => blk lab T top sec (sg v) == c).length := fun c hc => by
    have hcT : c < T := by simpa using hc
    have hB : (((List.range 7).filter fun v => !R v).filter fun v => blk lab T top sec (sg v) == c) = blE lab T top sec sg c := by rw [← hR]; rfl
    rw [hB]
    have hE : 2 * ((l.filter fun p => !R p.1 && !R p.2).filter fun p => blk lab T top sec (sg p.1) == c).length ≤ (blE lab T top sec sg c).length := by
      rw [← ends_len]
      refine sub_len ((ends_sub (List.filter_sublist.trans List.filter_sublist)).nodup hl.nd) fun x hx => ?_
      obtain ⟨p, hp, hxp⟩ := mem_ends.mp hx
      obtain ⟨hp1, hp2⟩ := List.mem_filter.mp hp
      obtain ⟨hp1, hp3⟩ := List.mem_filter.mp hp1
      simp only [Bool.and_eq_true, Bool.not_eq_true'] at hp3
      have hp2' : blk lab T top sec (sg p.1) = c := by simpa using hp2
      have i1 := hl.inn p.1 (mem_ends.mpr ⟨p, hp1, .inl rfl⟩)
      have i2 := hl.inn p.2 (mem_ends.mpr ⟨p, hp1, .inr rfl⟩)
      have hinc := hl.inc p hp1
      rw [← hR] at hp3
      have s1 := (H.at' _ i1.1).1
      have s2 := (H.at' _ i2.1).1
      have e2 : blk lab T top sec (sg p.2) = c := by
        rcases Nat.lt_trichotomy (blk lab T top sec (sg p.1)) (blk lab T top sec (sg p.2)) with q | q | q
        · have := H.blocks _ _ rfl (blk_lt s1) (blk_idem s1) p.1 p.2 i1.1 i2.1 hp3.1 hp3.2 rfl q
          rw [hinc.1] at this; cases this
        · omega
        · have := H.blocks _ _ rfl (blk_lt s2) (blk_idem s2) p.2 p.1 i2.1 i1.1 hp3.2 hp3.1 rfl q
          rw [hinc.2] at this; cases this
      rcases hxp with e | e
      · subst e; exact mem_blE.mpr ⟨i1.1, hp3.1, hp2'⟩
      · subst e; exact mem_blE.mpr ⟨i2.1, hp3.2, e2⟩
    by_cases hch : blk lab T top sec c = c
    · have hs := H.size hcT hch
      have : (blS lab T top sec c).length = ((List.range T).filter fun s => blk lab T top sec s == c).length := rfl
      omega
    · have : ((List.range T).filter fun s => blk lab T top sec s == c) = [] := List.filter_eq_nil_iff.mpr fun s hs q => by
        have hsT : s < T := by simpa using hs
        have q' : blk lab T top sec s = c := by simpa using q
        have := blk_idem (lab := lab) (top := top) (sec := sec) hsT
        rw [q'] at this
        exact hch this
      rw [this, List.length_nil]
      omega
  have hsum := sum_le hkey
  rw [sum_add, hpt, hps, hpe] at hsum
  rw [List.length_range] at hsum
  omega
end
end Mine
end
section
open PySem PyProof.Rows PySem.Calls
set_option maxRecDepth 10000
set_option linter.unusedVariables false
set_option linter.unusedSimpArgs false
namespace Mine
theorem lex_true : ∀ {X Y : List Int} {z : Int}, X.Pairwise (fun a b => b < a) → Y.Pairwise (fun a b => b < a) → z ∈ Y → z ∉ X → (∀ w, z < w → (w ∈ X ↔ w ∈ Y)) → lexLt X Y = true
  | _, [], _, _, _, h, _, _ => by simp at h
  | [], _ :: _, _, _, _, _, _, _ => rfl
  | p :: X, q :: Y, z, hX, hY, hz, hn, hw => by
    obtain ⟨x1, x2⟩ := List.pairwise_cons.mp hX
    obtain ⟨y1, y2⟩ := List.pairwise_cons.mp hY
    unfold lexLt
    by_cases e : p = q
    · subst e
      rw [if_pos rfl]
      have hzp : z ≠ p := fun e => hn (by simp [e])
      have hzY : z ∈ Y := (List.mem_cons.mp hz).resolve_left hzp
      have hlt := y1 z hzY
      refine lex_true x2 y2 hzY (fun h => hn (by simp [h])) fun w hzw => ?_
      have := hw w hzw
      rw [List.mem_cons, List.mem_cons] at this
      constructor
      · intro h
        have h1 := x1 w h
        exact (this.mp (.inr h)).resolve_left (by omega)
      · intro h
        have h1 := y1 w h
        exact (this.mpr (.inr h)).resolve_left (by omega)
    · rw [if_neg e]
      have hzq : z ≤ q := by
        rcases List.mem_cons.mp hz with h | h
        · omega
        · have := y1 z h; omega
      rw [decide_eq_true_eq]
      rcases Int.lt_or_le q p with h | h
      · have := (hw p (by omega)).mp (by simp)
        rcases List.mem_cons.mp this with h2 | h2
        · exact absurd h2 e
        · have := y1 p h2; omega
      · omega
section
variable {f : Nat → Nat → Bool} {L : List Nat} {g : Nat → Int} {hs : List (List Nat)}
theorem tie_nd (f) : (tieL f).Nodup := by
  unfold tieL
  refine List.pairwise_flatMap.mpr ⟨fun a _ => ?_, ?_⟩
  · refine List.pairwise_map.mpr (List.Pairwise.imp (fun {x y} h q => ?_) (show ((List.range 7).filter (cov f a)).Nodup from List.Pairwise.filter _ List.nodup_range))
    exact h (Prod.mk.inj q).2
  · refine List.Pairwise.imp (fun {x y} h a ha b hb q => ?_) (show (List.range 7).Nodup from List.nodup_range)
    obtain ⟨_, _, rfl⟩ := List.mem_map.mp ha
    obtain ⟨_, _, rfl⟩ := List.mem_map.mp hb
    exact h (Prod.mk.inj q).1
theorem Lab.all (H : Lab (tieL f) L g) (h7 : L.length = 7) {v} (hv : v < 7) : ∃ k : Nat, L[k]? = some v ∧ g v = (k : Int) + 1 := by
  have hm : v ∈ L := by
    false_or_by_contra
    rename_i q
    have := pigeon 7 (v :: L) (List.nodup_cons.mpr ⟨q, H.nd⟩) fun x hx => by
      rcases List.mem_cons.mp hx with e | e
      · exact e ▸ hv
      · exact H.lt x e
    rw [List.length_cons] at this; omega
  obtain ⟨k, hk⟩ := List.mem_iff_getElem?.mp hm
  exact ⟨k, hk, H.at' k v hk⟩
theorem Lab.uniq (H : Lab (tieL f) L g) {u v i j : Nat} (hi : L[i]? = some u) (hj : L[j]? = some v) (e : g u = g v) : u = v := by
  have h1 := H.at' i u hi
  have h2 := H.at' j v hj
  have : i = j := by omega
  subst this
  rw [hi] at hj; cases hj; rfl
theorem mem_take_lt {α : Type} {l : List α} {k : Nat} {x : α} (h : x ∈ l.take k) : ∃ j : Nat, j < k ∧ l[j]? = some x := by
  obtain ⟨j, hj⟩ := List.mem_iff_getElem?.mp h
  rw [List.getElem?_take] at hj
  split at hj
  · rename_i q; exact ⟨j, q, hj⟩
  · cases hj
theorem Lab.tie (H : Lab (tieL f) L g) (h7 : L.length = 7) {u v} (hu : u < 7) (hv : v < 7) (h : cov f u v = true) : g v < g u := by
  obtain ⟨k, hk, hg⟩ := H.all h7 hu
  have := H.fol k u hk (u, v) (tie_mem.mpr ⟨hu, hv, h⟩) rfl
  obtain ⟨j, hj, hjv⟩ := mem_take_lt this
  have := H.at' j v hjv
  omega
theorem Lab.anti (O : Order f) (H : Lab (tieL f) L g) (h7 : L.length = 7) {u v} (hu : u < 7) (hv : v < 7) (h : f u v = true) : g v < g u := by
  obtain ⟨r, hr⟩ := O.rank
  have key : ∀ n u, u < 7 → f u v = true → r v - r u = n → g v < g u := fun n => by
    induction n using Nat.strongRecOn with
    | _ n ih =>
      intro u hu h hn
      obtain ⟨c, hc, h1, h2⟩ := first_tie O hu hv h
      have q := H.tie h7 hu hc h1
      rcases h2 with e | e
      · exact e ▸ q
      · have r1 := hr u c hu hc (cov_iff.mp h1).1
        have r2 := hr c v hc hv e
        have := ih (r v - r c) (by omega) c hc e rfl
        omega
  exact key _ u hu h rfl
theorem foll_mem {ts : List (Nat × Nat)} {a : Nat} {z : Int} : z ∈ foll ts g a ↔ ∃ p ∈ ts, p.1 = a ∧ g p.2 = z := by
  unfold foll sortI
  rw [List.mem_reverse, (List.mergeSort_perm _ _).mem_iff, List.mem_map]
  constructor
  · rintro ⟨p, hp, e⟩
    obtain ⟨h1, h2⟩ := List.mem_filter.mp hp
    exact ⟨p, h1, by simpa using h2, e⟩
  · rintro ⟨p, hp, h1, e⟩
    exact ⟨p, List.mem_filter.mpr ⟨hp, by simpa using h1⟩, e⟩
theorem Lab.foll_desc (H : Lab (tieL f) L g) (h7 : L.length = 7) (a : Nat) : (foll (tieL f) g a).Pairwise (fun x y => y < x) := by
  have h1 := List.pairwise_mergeSort (le := fun a b : Int => decide (a ≤ b)) (fun a b c h1 h2 => by simp at *; omega) (fun a b => by simp; omega) (((tieL f).filter fun p => p.1 == a).map fun p => g p.2)
  have h2 : (((tieL f).filter fun p => p.1 == a).map fun p => g p.2).Nodup := by
    refine List.pairwise_map.mpr (List.Pairwise.imp_of_mem (fun {p q} hp hq h e => ?_) (show ((tieL f).filter fun p => p.1 == a).Nodup from List.Pairwise.filter _ (tie_nd f)))
    obtain ⟨hp1, hp2⟩ := List.mem_filter.mp hp
    obtain ⟨hq1, hq2⟩ := List.mem_filter.mp hq
    have hp3 : p.1 = a := by simpa using hp2
    have hq3 : q.1 = a := by simpa using hq2
    obtain ⟨i, hi, _⟩ := H.all h7 (tie_mem.mp hp1).2.1
    obtain ⟨j, hj, _⟩ := H.all h7 (tie_mem.mp hq1).2.1
    have := H.uniq hi hj e
    exact h (Prod.ext (hp3.trans hq3.symm) this)
  have h3 := ((List.mergeSort_perm (((tieL f).filter fun p => p.1 == a).map fun p => g p.2) (fun a b => decide (a ≤ b))).nodup_iff).mpr h2
  unfold foll sortI
  rw [List.pairwise_reverse]
  refine (h1.and h3).imp fun {x y} h => ?_
  have h4 := of_decide_eq_true h.1
  have h5 := h.2
  omega
theorem Lab.lex (H : Lab (tieL f) L g) (h7 : L.length = 7) {u t x : Nat} (hu : u < 7) (ht : t < 7) (hlt : g t < g u) (hx : x < 7) (h1 : cov f t x = true) (h2 : cov f u x = false) : ∃ y, y < 7 ∧ g x < g y ∧ cov f u y ≠ cov f t y := by
  false_or_by_contra
  rename_i hno
  have same : ∀ y, y < 7 → g x < g y → cov f u y = cov f t y := fun y hy hxy => by
    false_or_by_contra
    rename_i q
    exact hno ⟨y, hy, hxy, q⟩
  obtain ⟨k, hk, hgk⟩ := H.all h7 ht
  obtain ⟨k', hk', hgk'⟩ := H.all h7 hu
  have hnt : u ∉ L.take k := fun q => by
    obtain ⟨j, hj, hju⟩ := mem_take_lt q
    have := H.at' j u hju
    omega
  have hxk : x ∈ L.take k := H.fol k t hk (t, x) (tie_mem.mpr ⟨ht, hx, h1⟩) rfl
  obtain ⟨jx, hjx, hjx'⟩ := mem_take_lt hxk
  have hgx := H.at' jx x hjx'
  by_cases hall : ∀ p ∈ tieL f, p.1 = u → p.2 ∈ L.take k
  · have hl := H.least k t hk u hu hnt hall
    unfold itm at hl
    rw [vlt_item] at hl
    have hlex : lexLt (foll (tieL f) g u) (foll (tieL f) g t) = true := by
      refine lex_true (z := g x) (H.foll_desc h7 u) (H.foll_desc h7 t) (foll_mem.mpr ⟨(t, x), tie_mem.mpr ⟨ht, hx, h1⟩, rfl, rfl⟩) (fun q => ?_) fun w hw => ?_
      · obtain ⟨p, hp, hp1, hp2⟩ := foll_mem.mp q
        have hp3 := tie_mem.mp hp
        obtain ⟨i, hi, _⟩ := H.all h7 hp3.2.1
        have := H.uniq hi hjx' hp2
        rw [this, hp1] at hp3
        rw [hp3.2.2] at h2; cases h2
      · rw [foll_mem, foll_mem]
        constructor
        · rintro ⟨p, hp, hp1, rfl⟩
          have hp3 := tie_mem.mp hp
          have := same p.2 hp3.2.1 hw
          rw [hp1] at hp3
          rw [hp3.2.2] at this
          exact ⟨(t, p.2), tie_mem.mpr ⟨ht, hp3.2.1, this.symm⟩, rfl, rfl⟩
        · rintro ⟨p, hp, hp1, rfl⟩
          have hp3 := tie_mem.mp hp
          have := same p.2 hp3.2.1 hw
          rw [hp1] at hp3
          rw [hp3.2.2] at this
          exact ⟨(u, p.2), tie_mem.mpr ⟨hu, hp3.2.1, this⟩, rfl, rfl⟩
    split at hl
    · rename_i e
      rw [e, lexLt_irr] at hlex; cases hlex
    · rw [hlex] at hl; cases hl
  · have : ∃ p ∈ tieL f, p.1 = u ∧ p.2 ∉ L.take k := by
      false_or_by_contra
      rename_i q
      exact hall fun p hp e => by
        false_or_by_contra
        rename_i q2
        exact q ⟨p, hp, e, q2⟩
    obtain ⟨p, hp, hp1, hp2⟩ := this
    have hp3 := tie_mem.mp hp
    rw [hp1] at hp3
    obtain ⟨j, hj, hgj⟩ := H.all h7 hp3.2.1
    have hkj : k ≤ j := by
      rcases Nat.lt_or_ge j k with q | q
      · exact absurd (List.mem_iff_getElem?.mpr ⟨j, by rw [List.getElem?_take, if_pos q]; exact hj⟩) hp2
      · exact q
    have := same p.2 hp3.2.1 (by omega)
    rw [hp3.2.2] at this
    exact hp2 (H.fol k t hk (t, p.2) (tie_mem.mpr ⟨ht, hp3.2.1, this.symm⟩) rfl)
theorem Lab.cg (O : Order f) (H : Lab (tieL f) L g) (h7 : L.length = 7) (R : Run (tieL f) (fun v => (g v).toNat) hs) :
    CG f (fun v => (g v).toNat) hs.length (fun s => (hs.getD s []).getD 0 0) (fun s => (hs.getD s [])[1]?) (fun v => hs.findIdx fun h => h.contains v) := by
  have nd : hs.flatten.Nodup := by have := (run_nd R hs.length (Nat.le_refl _)).1; rwa [Dn_all] at this
  have hall := run_all O R
  have hsg : ∀ v, v < 7 → ∃ h, hs[hs.findIdx fun h => h.contains v]? = some h ∧ v ∈ h := fun v hv => by
    obtain ⟨x, hx, hvx⟩ := List.mem_flatten.mp (hall v hv)
    have hlt := List.findIdx_lt_length_of_exists (p := fun h : List Nat => h.contains v) (xs := hs) ⟨x, hx, by simpa using hvx⟩
    have := List.findIdx_getElem (p := fun h : List Nat => h.contains v) (xs := hs) (w := hlt)
    exact ⟨_, List.getElem?_eq_getElem hlt, by simpa using this⟩
  have huq : ∀ (v : Nat) (h : List Nat) (i : Nat), v < 7 → hs[i]? = some h → v ∈ h → (hs.findIdx fun h => h.contains v) = i := fun v h i hv hi hvh => by
    obtain ⟨h', e1, e2⟩ := hsg v hv
    exact flat_uniq nd e1 hi e2 hvh
  have hgd : ∀ {s : Nat} {h : List Nat}, hs[s]? = some h → hs.getD s [] = h := fun {s h} e => by rw [List.getD_eq_getElem?_getD, e]; rfl
  have hlt7 : ∀ {s : Nat} {h : List Nat}, hs[s]? = some h → ∀ v ∈ h, v < 7 := fun {s h} e v hv => (ready_iff.mp ((run_hour R e).2.2.2 v hv)).1
  have gpos : ∀ v, v < 7 → 1 ≤ g v := fun v hv => by obtain ⟨k, _, e⟩ := H.all h7 hv; omega
  refine ⟨O, fun v hv => ?_, fun u v hu hv h => ?_, fun u v hu hv h => ?_, fun v hv => ?_, fun s hs' => ?_, fun s hs' v hv => ?_, fun u v hu hv h => ?_, fun s hs' v hv hsv hp => ?_, fun u t hu ht hl x hx h1 h2 => ?_⟩
  · have := gpos v hv; show 1 ≤ (g v).toNat; omega
  · have := H.anti O h7 hu hv h
    have := gpos v hv
    show (g v).toNat < (g u).toNat
    omega
  · have h1 := gpos u hu
    have h2 := gpos v hv
    obtain ⟨i, hi, _⟩ := H.all h7 hu
    obtain ⟨j, hj, _⟩ := H.all h7 hv
    have h3 : (g u).toNat = (g v).toNat := h
    exact H.uniq hi hj (by omega)
  · obtain ⟨h, e1, e2⟩ := hsg v hv
    refine ⟨(List.getElem?_eq_some_iff.mp e1).1, ?_⟩
    rw [hgd e1]
    obtain ⟨x, hx, q⟩ := top_cases (R.top _ h e1) (R.ne _ h e1)
    rcases q with ⟨rfl, _⟩ | ⟨y, hy, rfl, _, _⟩
    · left; simpa using e2
    · rcases List.mem_cons.mp e2 with e | e
      · left; simpa using e
      · right; simp at e; simp [e]
  · have e1 : hs[s]? = some hs[s] := by simp
    generalize hs[s] = h at e1
    rw [hgd e1]
    obtain ⟨x, hx, q⟩ := top_cases (R.top _ h e1) (R.ne _ h e1)
    have hxh : x ∈ h ∧ h.getD 0 0 = x := by
      rcases q with ⟨rfl, _⟩ | ⟨y, hy, rfl, _, _⟩ <;> simp
    rw [hxh.2]
    exact ⟨hlt7 e1 x hxh.1, huq x h s (hlt7 e1 x hxh.1) e1 hxh.1⟩
  · have e1 : hs[s]? = some hs[s] := by simp
    generalize hs[s] = h at e1
    rw [hgd e1] at hv ⊢
    obtain ⟨x, hx, q⟩ := top_cases (R.top _ h e1) (R.ne _ h e1)
    rcases q with ⟨rfl, _⟩ | ⟨y, hy, rfl, hl, _⟩
    · simp at hv
    · have hvy : y = v := by simpa using hv
      subst hvy
      exact ⟨hlt7 e1 y (by simp), huq y _ s (hlt7 e1 y (by simp)) e1 (by simp), by simpa using hl⟩
  · obtain ⟨h1, e1, e2⟩ := hsg u hu
    obtain ⟨h2, e3, e4⟩ := hsg v hv
    exact (run_sched O R).ord u v hu hv h _ _ _ _ e1 e2 e3 e4
  · have e1 : hs[s]? = some hs[s] := by simp
    generalize hs[s] = h at e1
    rw [hgd e1]
    have hr : v ∈ readyL (tieL f) (hs.take s).flatten := ready_iff.mpr ⟨hv, fun q => by
      obtain ⟨j, h', hj, e3, e4⟩ := Dn_mem.mp q
      have := huq v h' j hv e3 e4
      omega, fun c hc hcv => by
      have h1 := hp c hc (cov_iff.mp hcv).1
      obtain ⟨h', e3, e4⟩ := hsg c hc
      exact Dn_mem.mpr ⟨_, h', h1, e3, e4⟩⟩
    have hnh : v ∉ h := fun q => by have := huq v h s hv e1 q; omega
    obtain ⟨x, hx, q⟩ := top_cases (R.top _ h e1) (R.ne _ h e1)
    rcases q with ⟨rfl, h2⟩ | ⟨y, hy, rfl, hl, h2⟩
    · exact absurd (by simp [h2 v hr]) hnh
    · rcases h2 v hr with e | e | e
      · exact absurd (by simp [e]) hnh
      · exact absurd (by simp [e]) hnh
      · exact ⟨y, by simp, e⟩
  · have h3 := gpos t ht
    have hl' : (g t).toNat < (g u).toNat := hl
    obtain ⟨y, hy, h4, h5⟩ := H.lex h7 hu ht (by omega) hx h1 h2
    have := gpos x hx
    exact ⟨y, hy, (by show (g x).toNat < (g y).toNat; omega), h5⟩
/-- the law's last line -/
theorem law_math (O : Order f) (H : Lab (tieL f) L g) (h7 : L.length = 7) (R : Run (tieL f) (fun v => (g v).toNat) hs) {t : Nat} (ht : Lev f t 127) (hmin : ∀ t', t' < t → ¬ Lev f t' 127) : hs.length = t ∧ t + mp f 127 = 7 := by
  have h1 := run_full O R
  have h2 : t ≤ hs.length := by
    rcases Nat.lt_or_ge hs.length t with q | q
    · exact absurd h1 (hmin _ q)
    · exact q
  have h3 := fewest_pairs ht
  obtain ⟨l, hl1, hl2⟩ := mp_some f 127 (by omega)
  have h4 := (H.cg O h7 R).pairs hl1
  omega
theorem Lab.sorted (H : Lab (tieL f) L g) (h7 : L.length = 7) : sortI ((List.range 7).map g) = [1, 2, 3, 4, 5, 6, 7] := by
  refine (sortI_uniq ?_ (by decide)).symm
  have hp : L.Perm (List.range 7) := (List.perm_ext_iff_of_nodup H.nd List.nodup_range).mpr fun v => by
    rw [List.mem_range]
    constructor
    · exact H.lt v
    · intro hv
      obtain ⟨k, hk, _⟩ := H.all h7 hv
      exact List.mem_iff_getElem?.mpr ⟨k, hk⟩
  refine List.Perm.trans ?_ (hp.map g)
  have : L.map g = [1, 2, 3, 4, 5, 6, 7] := by
    apply List.ext_getElem?
    intro i
    by_cases hi : i < 7
    · have hiL : L[i]? = some L[i] := by simp
      rw [List.getElem?_map, hiL, Option.map_some, H.at' i _ hiL]
      match i, hi with
      | 0, _ => rfl
      | 1, _ => rfl
      | 2, _ => rfl
      | 3, _ => rfl
      | 4, _ => rfl
      | 5, _ => rfl
      | 6, _ => rfl
    · rw [List.getElem?_eq_none (by simp; omega), List.getElem?_eq_none (by simp; omega)]
  rw [this]
end
end Mine
end
section
open PySem PyProof.Rows PySem.Calls
set_option maxRecDepth 10000
set_option linter.unusedVariables false
set_option linter.unusedSimpArgs false
namespace Mine
def RF (L : List Nat) (rem : List (Nat × Nat)) : List Nat := (List.range 7).filter fun v => !L.contains v && wcnt rem v == 0
theorem RF_mem {L rem v} : v ∈ RF L rem ↔ v < 7 ∧ v ∉ L ∧ wcnt rem v = 0 := by
  unfold RF
  rw [List.mem_filter, List.mem_range]
  simp
theorem RF_nd (L rem) : (RF L rem).Nodup := List.Pairwise.filter _ List.nodup_range
theorem RF_len (L rem) : (RF L rem).length ≤ 7 := by
  have := List.length_filter_le (fun v => !L.contains v && wcnt rem v == 0) (List.range 7)
  unfold RF; simpa using this
/-- the two heaps: the plain one and the one in a heap's order -/
def Pq (ts : List (Nat × Nat)) (g : Nat → Int) (L : List Nat) (rem : List (Nat × Nat)) (pl l : List V) : Prop :=
  HP vlt l 0 ∧ l.Perm ((RF L rem).map (itm ts g)) ∧ pl.Perm ((RF L rem).map (itm ts g)) ∧ ∀ v ∈ L, wcnt rem v = 0
section
variable {ts : List (Nat × Nat)} {g : Nat → Int} {L : List Nat} {rem rem' : List (Nat × Nat)} {pl l : List V}
theorem Pq.lenl (h : Pq ts g L rem pl l) : l.length ≤ 7 := by rw [h.2.1.length_eq, List.length_map]; exact RF_len L rem
theorem Pq.lenp (h : Pq ts g L rem pl l) : pl.length ≤ 7 := by rw [h.2.2.1.length_eq, List.length_map]; exact RF_len L rem
theorem all_itm {R : List Nat} (h : l.Perm (R.map (itm ts g))) : ∀ y ∈ l, isItem y := fun y hy => by
  obtain ⟨v, _, rfl⟩ := List.mem_map.mp (h.mem_iff.mp hy)
  exact isItem_itm ts g v
theorem Pq.same (h : Pq ts g L rem pl l) (e : ∀ v, (wcnt rem v = 0 ↔ wcnt rem' v = 0)) : Pq ts g L rem' pl l := by
  have : RF L rem' = RF L rem := filter_same fun v _ => by
    have := e v
    congr 1
    rw [Bool.eq_iff_iff]; simp [this]
  exact ⟨h.1, by rw [this]; exact h.2.1, by rw [this]; exact h.2.2.1, fun v hv => (e v).mp (h.2.2.2 v hv)⟩
theorem Pq.push {b : Nat} (h : Pq ts g L rem pl l) (hb : b < 7) (h1 : wcnt rem b = 1) (h0 : wcnt rem' b = 0) (e : ∀ v, v ≠ b → wcnt rem v = wcnt rem' v) : Pq ts g L rem' (pl ++ [itm ts g b]) (pushH vlt l (itm ts g b)) := by
  have hnL : b ∉ L := fun q => by have := h.2.2.2 b q; omega
  have hp := pushH_ok ordItem (x := itm ts g b) (all_itm h.2.1) (isItem_itm ts g b) h.1
  have hf : (RF L rem').Perm (b :: RF L rem) := filter_add (P := fun v => !L.contains v && wcnt rem v == 0) (P' := fun v => !L.contains v && wcnt rem' v == 0) (b := b) (l := List.range 7) List.nodup_range (by simpa using hb) (by simp [h1]) (by simp [h0, hnL]) (fun x _ hx => by rw [e x hx])
  refine ⟨hp.1, hp.2.trans ((List.Perm.cons _ h.2.1).trans (hf.map (itm ts g)).symm), ?_, fun v hv => ?_⟩
  · exact (List.perm_append_comm (l₁ := pl)).trans ((List.Perm.cons _ h.2.2.1).trans (hf.map (itm ts g)).symm)
  · by_cases q : v = b
    · rw [q]; exact h0
    · rw [← e v q]; exact h.2.2.2 v hv
theorem itm_inj {u v : Nat} (h : itm ts g u = itm ts g v) : u = v := by
  unfold itm at h
  simp only [V.item.injEq] at h
  have := h.2; omega
theorem RF_foll {v} (h : v ∈ RF L (remF L ts)) : ∀ p ∈ ts, p.1 = v → p.2 ∈ L := wcnt_zero.mp (RF_mem.mp h).2.2
def updI (g : Nat → Int) (d : Nat) (x : Int) : Nat → Int := fun v => if v = d then x else g v
/-- one more label -/
theorem Lab.step {d : Nat} (H : Lab ts L g) (hd : d ∈ RF L (remF L ts)) (hl : ∀ v ∈ RF L (remF L ts), vlt (itm ts g v) (itm ts g d) = false) : Lab ts (L ++ [d]) (updI g d ((L.length : Int) + 1)) := by
  obtain ⟨d1, d2, d3⟩ := RF_mem.mp hd
  have hsame : ∀ v, (∀ p ∈ ts, p.1 = v → p.2 ∈ L) → itm ts (updI g d ((L.length : Int) + 1)) v = itm ts g v := fun v hv => itm_congr fun p hp hpv => by
    unfold updI
    rw [if_neg]
    intro e
    exact d2 (e ▸ hv p hp hpv)
  have htk : ∀ k, k ≤ L.length → (L ++ [d]).take k = L.take k := fun k hk => List.take_append_of_le_length hk
  refine ⟨?_, fun v hv => ?_, fun k v hk => ?_, fun v hv hnv => ?_, fun k v hk => ?_, fun k v hk => ?_⟩
  · exact List.nodup_append.mpr ⟨H.nd, by simp, fun a ha b hb e => by simp at hb; subst hb; exact d2 (e ▸ ha)⟩
  · rcases List.mem_append.mp hv with q | q
    · exact H.lt v q
    · simp at q; exact q ▸ d1
  · unfold updI
    by_cases hkl : k < L.length
    · rw [List.getElem?_append_left hkl] at hk
      rw [if_neg (fun (e : v = d) => d2 (e ▸ List.mem_of_getElem? hk))]
      exact H.at' k v hk
    · have hk2 := (List.getElem?_eq_some_iff.mp hk).1
      have e : k = L.length := by simp at hk2; omega
      subst e
      rw [List.getElem?_append_right (Nat.le_refl _)] at hk
      simp at hk
      rw [if_pos hk.symm]
  · rw [List.mem_append, not_or] at hnv
    unfold updI
    rw [if_neg (fun e => hnv.2 (by simp [e]))]
    exact H.off v hv hnv.1
  · by_cases hkl : k < L.length
    · rw [List.getElem?_append_left hkl] at hk
      rw [htk k (by omega)]
      exact H.fol k v hk
    · have hk2 := (List.getElem?_eq_some_iff.mp hk).1
      have e : k = L.length := by simp at hk2; omega
      subst e
      rw [List.getElem?_append_right (Nat.le_refl _)] at hk
      simp at hk
      rw [htk _ (Nat.le_refl _), List.take_length]
      exact hk ▸ RF_foll hd
  · intro w hw hwn hwf
    by_cases hkl : k < L.length
    · rw [List.getElem?_append_left hkl] at hk
      rw [htk k (by omega)] at hwn hwf
      rw [hsame w fun p hp e => List.mem_of_mem_take (hwf p hp e), hsame v fun p hp e => List.mem_of_mem_take (H.fol k v hk p hp e)]
      exact H.least k v hk w hw hwn hwf
    · have hk2 := (List.getElem?_eq_some_iff.mp hk).1
      have e : k = L.length := by simp at hk2; omega
      subst e
      rw [List.getElem?_append_right (Nat.le_refl _)] at hk
      simp at hk
      rw [htk _ (Nat.le_refl _), List.take_length] at hwn hwf
      have hwr : w ∈ RF L (remF L ts) := RF_mem.mpr ⟨hw, hwn, wcnt_zero.mpr hwf⟩
      rw [← hk, hsame w hwf, hsame d (RF_foll hd)]
      exact hl w hwr
theorem RF_cons {d : Nat} (hd : d ∈ RF L rem) : (RF L rem).Perm (d :: RF (L ++ [d]) rem) := by
  obtain ⟨d1, d2, d3⟩ := RF_mem.mp hd
  exact filter_add (P := fun v => !(L ++ [d]).contains v && wcnt rem v == 0) (P' := fun v => !L.contains v && wcnt rem v == 0) (b := d) (l := List.range 7) List.nodup_range (by simpa using d1) (by simp) (by simp [d2, d3]) (fun x _ hx => by
    have : (L ++ [d]).contains x = L.contains x := by rw [Bool.eq_iff_iff]; simp [hx]
    rw [this])
/-- the least taken out of both -/
theorem Pq.pop {d : Nat} {pl' l' : List V} (h : Pq ts g L (remF L ts) pl l) (hd : d ∈ RF L (remF L ts)) (h1 : HP vlt l' 0) (h2 : (itm ts g d :: l').Perm l) (h3 : (itm ts g d :: pl').Perm pl) (x : Int) : Pq ts (updI g d x) (L ++ [d]) (remF L ts) pl' l' := by
  obtain ⟨d1, d2, d3⟩ := RF_mem.mp hd
  have hc := RF_cons hd
  have hm : (RF (L ++ [d]) (remF L ts)).map (itm ts (updI g d x)) = (RF (L ++ [d]) (remF L ts)).map (itm ts g) := List.map_congr_left fun v hv => itm_congr fun p hp hpv => by
    have hv' := RF_mem.mp hv
    have : p.2 ∈ L := wcnt_zero.mp hv'.2.2 p hp hpv
    unfold updI
    rw [if_neg (fun (e : p.2 = d) => d2 (e ▸ this))]
  refine ⟨h1, ?_, ?_, fun v hv => ?_⟩
  · rw [hm]
    exact (h2.trans (h.2.1.trans (hc.map (itm ts g)))).cons_inv
  · rw [hm]
    exact (h3.trans (h.2.2.1.trans (hc.map (itm ts g)))).cons_inv
  · rcases List.mem_append.mp hv with q | q
    · exact h.2.2.2 v q
    · simp at q; exact q ▸ d3
/-- the least of the plain list is the top of the heap -/
theorem Pq.top {d : Nat} (h : Pq ts g L rem pl l) (hd : d ∈ RF L rem) (hl : ∀ v ∈ RF L rem, vlt (itm ts g v) (itm ts g d) = false) : l.getD 0 .none = itm ts g d := by
  have hdl : itm ts g d ∈ l := h.2.1.mem_iff.mpr (List.mem_map_of_mem hd)
  have h0 : 0 < l.length := List.length_pos_of_mem hdl
  have hm : l.getD 0 .none ∈ l := by simp [h0]
  obtain ⟨v, hv, e⟩ := List.mem_map.mp (h.2.1.mem_iff.mp hm)
  have h1 := hl v hv
  obtain ⟨i, hi, he⟩ := List.mem_iff_getElem.mp hdl
  have h2 := HP.top ordItem (all_itm h.2.1) h.1 i hi
  have e2 : l.getD i .none = itm ts g d := by simp [hi, he]
  rw [e2, ← e] at h2
  rw [← e]
  false_or_by_contra
  rename_i q
  rcases item_tot (isItem_itm ts g v) (isItem_itm ts g d) q with q | q
  · rw [q] at h1; cases h1
  · rw [q] at h2; cases h2
end
end Mine
end
section
open PySem PyProof.Rows PySem.Calls
set_option maxRecDepth 10000
set_option linter.unusedVariables false
set_option linter.unusedSimpArgs false
namespace Mine
def B13 (ts : List (Nat × Nat)) (al aw : Addr) (g : Nat → Int) (wc : Nat → Int) : Rho := [("labels", .list al (tabI g)), ("waiting", .list aw (tabI wc)), ("ties", .fl (ts.map pV))]
theorem sub13 {ts al aw g wc} {ρ : Rho} (h1 : ρ.lookup ("labels" : Str) = some (.list al (tabI g))) (h2 : ρ.lookup ("waiting" : Str) = some (.list aw (tabI wc))) (h3 : ρ.lookup ("ties" : Str) = some (.fl (ts.map pV))) : Sub (B13 ts al aw g wc) ρ :=
  .cons h1 (.cons h2 (.cons h3 .nil))
theorem sig13 : Sig (fdef 13) ["ties"] := Sig.of (by decide +kernel) fun pm code doc vs h => by
  match vs, h with
  | [a], _ => rfl
theorem w13ties {c : Cx} (G : Ground c) {ts : List (Nat × Nat)} (hts : Ties ts) {al aw ah ap : Addr} {L : List Nat} {d : Nat} (hdL : d ∉ L) {g : Nat → Int} {ls : List Int} {pl l : List V} {P : Fl → Rho → Prop} {pos : Pos}
    (hpq : Pq ts g (L ++ [d]) (remF L ts) pl l) (hend : ∀ pl' l' ρ', Pq ts g (L ++ [d]) (remF (L ++ [d]) ts) pl' l' → Sub (("heap", .list ah l') :: ("plain", .list ap pl') :: B13 ts al aw g (fun v => (wcnt (remF (L ++ [d]) ts) v : Int))) ρ' → P .nrm ρ') :
    WS c 3 (fdef 13).scope (match (inner (fdef 13).body 5)[4]? with | some st => st | none => .Pass pos) (("due", .item ls (d : Nat)) :: ("heap", .list ah l) :: ("plain", .list ap pl) :: B13 ts al aw g (fun v => (wcnt (remF L ts) v : Int))) P := by
  refine WS.for_ (xs := ts.map pV) (fun j ρ' => ∃ pl' l', Sub (("due", .item ls (d : Nat)) :: ("heap", .list ah l') :: ("plain", .list ap pl') :: B13 ts al aw g (fun v => (wcnt (remJF L d ts j) v : Int))) ρ' ∧ Pq ts g (L ++ [d]) (remJF L d ts j) pl' l')
    (Ev.yields_fl (Ev.v rfl)) (stT (by rfl)) ⟨pl, l, by rw [remJF_zero]; exact .cons rfl (.cons rfl (.cons rfl (sub13 rfl rfl rfl))), by rw [remJF_zero]; exact hpq⟩ ?_ ?_
  · rintro j x ρ' hx ⟨pl2, l2, hsub, hq⟩
    have hj : j < ts.length := by have := (List.getElem?_eq_some_iff.mp hx).1; simpa using this
    have hpj : ts[j]? = some ts[j] := by simp [hj]
    generalize ts[j] = p at hpj
    have hxe : x = pV p := by
      rw [List.getElem?_map, hpj] at hx
      simpa using hx.symm
    subst hxe
    obtain ⟨hp1, hp2⟩ := hts.lt p (List.mem_of_getElem? hpj)
    have hstep := wcnt_step (ts := ts) hdL hpj
    have hlen := hq.lenl
    have hlenp := hq.lenp
    refine ⟨rfl, _, bindP _ _ _ _ _ _ p, ?_⟩
    refine Wp.sub (ρ' := ("b", .int (p.2 : Nat)) :: ("a", .int (p.1 : Nat)) :: ("due", .item ls (d : Nat)) :: ("heap", .list ah l2) :: ("plain", .list ap pl2) :: B13 ts al aw g (fun v => (wcnt (remJF L d ts j) v : Int)))
      (.cons rfl (.cons rfl (.cons (hsub _ _ rfl) (.cons (hsub _ _ rfl) (.cons (hsub _ _ rfl) (sub13 (hsub _ _ rfl) (hsub _ _ rfl) (hsub _ _ rfl))))))) ?_
    refine Wp.seq (WS.if_ (b := p.2 == d) (Tst.cast (by rw [Bool.eq_iff_iff]; simp only [beq_iff_eq]; omega) (Tst.cmp (Ev.v rfl) (Ev.subI (ls := ls) (b := d) (Ev.v rfl rfl (by simp)) (Ev.int 1 _)) (CmpOk.ieq _ _))) (fun hpa => ?_) (fun hpa => Wp.nil (wn (Wp.nil ?_))))
    · have hpa' : p.2 = d := by simpa using hpa
      have hs1 : ∀ v, v ≠ p.1 → wcnt (remJF L d ts j) v = wcnt (remJF L d ts (j + 1)) v := fun v hv => by
        rw [hstep v, if_neg (fun q => hv q.2.symm)]; rfl
      have hs2 : wcnt (remJF L d ts j) p.1 = wcnt (remJF L d ts (j + 1)) p.1 + 1 := by rw [hstep p.1, if_pos ⟨hpa', rfl⟩]
      refine Wp.seq (WS.setL (n := p.1) (a := aw) (l := tabI fun v => (wcnt (remJF L d ts j) v : Int)) (y := .int (wcnt (remJF L d ts (j + 1)) p.1 : Nat)) rfl (.inl rfl)
        (Ev.cast (by rw [hs2]; push_cast; omega) (Ev.iop (Ev.subL (n := p.1) (y := .int (wcnt (remJF L d ts j) p.1 : Nat)) (Ev.v (V := .list aw (tabI fun v => (wcnt (remJF L d ts j) v : Int))) rfl) (Ev.v rfl) rfl rfl (tabI_at hp1) (by rw [tabI_len]; omega)) (Ev.int 1 _) (IntOp.sub _ _)))
        (Ev.v rfl) rfl (by rw [tabI_len]; exact hp1) (by rw [tabI_len]; omega) rfl (by simp) (wn ?_))
      rw [tabI_set hp1, tabI_congr (g' := fun v => (wcnt (remJF L d ts (j + 1)) v : Int)) (fun v hv => by
        by_cases e : v = p.1
        · rw [if_pos e, e]
        · rw [if_neg e, hs1 v e])]
      refine Wp.sub (ρ' := ("a", .int (p.1 : Nat)) :: ("due", .item ls (d : Nat)) :: ("heap", .list ah l2) :: ("plain", .list ap pl2) :: B13 ts al aw g (fun v => (wcnt (remJF L d ts (j + 1)) v : Int)))
        (.cons rfl (.cons rfl (.cons rfl (.cons rfl (sub13 rfl rfl rfl))))) ?_
      refine Wp.seq (WS.if_ (b := wcnt (remJF L d ts (j + 1)) p.1 == 0) (Tst.cast (by rw [Bool.eq_iff_iff]; simp only [beq_iff_eq]; omega) (Tst.cmp (Ev.subL (n := p.1) (y := .int (wcnt (remJF L d ts (j + 1)) p.1 : Nat)) (Ev.v (V := .list aw (tabI fun v => (wcnt (remJF L d ts (j + 1)) v : Int))) rfl) (Ev.v rfl) rfl rfl (tabI_at hp1) (by rw [tabI_len]; omega)) (Ev.int 0 _) (CmpOk.ieq _ _))) (fun hz => ?_) (fun hz => Wp.nil (wn (Wp.nil (wn (Wp.nil ?_))))))
      · have hz' : wcnt (remJF L d ts (j + 1)) p.1 = 0 := by simpa using hz
        have hpush := hq.push hp1 (by rw [hs2, hz']) hz' hs1
        have hitm : itm ts g p.1 = .item (sortI ((ts.filter fun q => q.1 == p.1).map fun q => g q.2)).reverse (p.1 : Nat) := rfl
        refine Wp.seq (WS.assign (V := itm ts g p.1) (Ev.item (ls := (sortI ((ts.filter fun q => q.1 == p.1).map fun q => g q.2)).reverse) (b := (p.1 : Nat)) (Ev.freeze (Ev.sortedRev G.ok rfl (G.bi _ (by simp)) (Ev.castF (by rw [List.map_map]; rfl) (Ev.freeze (Ev.compM pV pD pDV (l := ts) (fun q => q.1 == p.1) (fun q => .int (g q.2)) (Ev.yields_fl (Ev.v rfl)) (fun q hqm => ?_) (by have := hts.len; omega)))) (RevOk.ints (ns := (ts.filter fun q => q.1 == p.1).map fun q => g q.2) rfl (by
            have := List.length_filter_le (fun q : Nat × Nat => q.1 == p.1) ts
            have := hts.len
            rw [List.length_map]; omega)))) (Ev.v rfl)) rfl (.inl rfl) (wn ?_))
        · have hq2 := (hts.lt q hqm).2
          exact ⟨rfl, _, bindP _ _ _ _ _ _ q, Tsts.one (Tst.cast (by rw [Bool.eq_iff_iff]; simp only [beq_iff_eq]; omega) (Tst.cmp (Ev.v rfl) (Ev.v rfl) (CmpOk.ieq _ _))), fun _ U => El.ofEv (Ev.subL (n := q.2) (y := .int (g q.2)) (Ev.v (V := .list al (tabI g)) rfl) (Ev.v rfl) rfl rfl (tabI_at hq2) (by rw [tabI_len]; omega)) rfl (by simp)⟩
        refine Wp.seq (WS.append (a := ap) (l := pl2) (y := itm ts g p.1) rfl (.inl rfl) (Ev.v rfl rfl (by simp [itm])) rfl (by simp [itm]) (by omega) (wn ?_))
        refine Wp.seq (WS.ex (Ex.callO (b := ah) (l := l2) (rest := [itm ts g p.1]) G.ok rfl (G.fn 1 (by simp)) rfl rfl (.inl rfl) (EvA.cons (Ev.v rfl rfl (by simp [itm])) EvA.nil) (OwnFn.up (w1 G cmpItem (all_itm hq.2.1) (isItem_itm ts g p.1) (by omega)))) ?_)
        rintro v ρ'' ⟨l'', ⟨rfl, rfl⟩, rfl⟩
        refine ⟨rfl, wn (Wp.nil (wn (Wp.nil (wn (Wp.nil ?_)))))⟩
        exact ⟨_, _, .cons rfl (.cons rfl (.cons rfl (sub13 rfl rfl rfl))), hpush⟩
      · refine ⟨pl2, l2, .cons rfl (.cons rfl (.cons rfl (sub13 rfl rfl rfl))), hq.same fun v => ?_⟩
        by_cases e : v = p.1
        · rw [e, hs2]
          have : wcnt (remJF L d ts (j + 1)) p.1 ≠ 0 := by simpa using hz
          omega
        · rw [hs1 v e]
    · have hpa' : p.2 ≠ d := by simpa using hpa
      have hs1 : ∀ v, wcnt (remJF L d ts j) v = wcnt (remJF L d ts (j + 1)) v := fun v => by
        rw [hstep v, if_neg (fun q => hpa' q.1)]; rfl
      have e : (fun v => (wcnt (remJF L d ts j) v : Int)) = fun v => (wcnt (remJF L d ts (j + 1)) v : Int) := by funext v; rw [hs1 v]
      refine ⟨pl2, l2, by rw [← e]; exact .cons rfl (.cons rfl (.cons rfl (sub13 rfl rfl rfl))), hq.same fun v => by rw [hs1 v]⟩
  · rintro ρ' ⟨pl2, l2, hsub, hq⟩
    rw [List.length_map, remJF_end] at *
    exact hend pl2 l2 ρ' hq (.cons (hsub _ _ rfl) (.cons (hsub _ _ rfl) (sub13 (hsub _ _ rfl) (hsub _ _ rfl) (hsub _ _ rfl))))
end Mine
end
section
open PySem PyProof.Rows PySem.Calls
set_option maxRecDepth 10000
set_option linter.unusedVariables false
set_option linter.unusedSimpArgs false
namespace Mine
/-- while works are left without a label, one has all its followers labelled -/
def Goes (ts : List (Nat × Nat)) : Prop := ∀ L : List Nat, L.Nodup → (∀ v ∈ L, v < 7) → L.length < 7 → ∃ v, v < 7 ∧ v ∉ L ∧ ∀ p ∈ ts, p.1 = v → p.2 ∈ L
theorem vEq_itm {x y : V} (hx : isItem x) (hy : isItem y) : ∃ b, vEq x y = some b ∧ (b = true ↔ x = y) := by
  obtain ⟨a, b, rfl⟩ := hx; obtain ⟨a', b', rfl⟩ := hy
  refine ⟨_, rfl, ?_⟩
  simp
theorem nodup_itm {ts g} {R : List Nat} {l : List V} (hR : R.Nodup) (h : l.Perm (R.map (itm ts g))) : l.Nodup :=
  h.nodup_iff.mpr (List.pairwise_map.mpr (hR.imp fun {a b} hab e => hab (itm_inj e)))
theorem eraseIdx_perm {α : Type} : ∀ {l : List α} {i : Nat} {x : α}, l[i]? = some x → (x :: l.eraseIdx i).Perm l
  | [], i, x, h => by simp at h
  | y :: r, 0, x, h => by simp at h; subst h; exact List.Perm.refl _
  | y :: r, i + 1, x, h => by
    rw [List.eraseIdx_cons_succ]
    exact (List.Perm.swap y x _).trans (List.Perm.cons y (eraseIdx_perm (by simpa using h)))
set_option maxHeartbeats 1000000 in
theorem w13turn {c : Cx} (G : Ground c) {ts : List (Nat × Nat)} (hts : Ties ts) {al aw ah ap : Addr} {L : List Nat} {g : Nat → Int} {pl l : List V} (hL : Lab ts L g) (hne : RF L (remF L ts) ≠ [])
    (hpq : Pq ts g L (remF L ts) pl l) {P : Fl → Rho → Prop} (hend : ∀ d pl' l' ρ', d ∈ RF L (remF L ts) → Lab ts (L ++ [d]) (updI g d ((L.length : Int) + 1)) → Pq ts (updI g d ((L.length : Int) + 1)) (L ++ [d]) (remF (L ++ [d]) ts) pl' l' → Sub (("heap", .list ah l') :: ("plain", .list ap pl') :: B13 ts al aw (updI g d ((L.length : Int) + 1)) (fun v => (wcnt (remF (L ++ [d]) ts) v : Int))) ρ' → P .nrm ρ') :
    Wp c 3 (fdef 13).scope (inner (fdef 13).body 5) (("label", .int ((L.length : Int) + 1)) :: ("heap", .list ah l) :: ("plain", .list ap pl) :: B13 ts al aw g (fun v => (wcnt (remF L ts) v : Int))) P := by
  have hpi := all_itm hpq.2.2.1
  have hli := all_itm hpq.2.1
  have hplen := hpq.lenp
  have hllen := hpq.lenl
  have hpne : pl ≠ [] := fun e => by
    have := hpq.2.2.1.length_eq
    rw [e, List.length_map] at this
    exact hne (List.length_eq_zero_iff.mp this.symm)
  obtain ⟨hmem, hleast⟩ := minAt_least hpi hpne
  have hmlt : minAt pl < pl.length := by
    have hb := argBest_le (fun i j => vlt (pl.getD i .none) (pl.getD j .none)) (pl.length - 1)
    have := List.length_pos_iff.mpr hpne
    unfold minAt; omega
  obtain ⟨d, hd, hde⟩ := List.mem_map.mp (hpq.2.2.1.mem_iff.mp hmem)
  have hl : ∀ v ∈ RF L (remF L ts), vlt (itm ts g v) (itm ts g d) = false := fun v hv => by
    rw [hde]
    exact hleast _ (hpq.2.2.1.mem_iff.mpr (List.mem_map_of_mem hv))
  have htop := hpq.top hd hl
  have hd7 := (RF_mem.mp hd).1
  have hdL := (RF_mem.mp hd).2.1
  have hpnd := nodup_itm (RF_nd _ _) hpq.2.2.1
  have hgm : pl[minAt pl]? = some (itm ts g d) := by
    rw [hde]; simp [hmlt]
  -- due = min(plain)
  refine Wp.seq (WS.assign (V := itm ts g d) (by rw [hde]; exact Ev.minL G cmpItem (Ev.v (V := .list ap pl) rfl) rfl hpi hpne) rfl (.inl rfl) (wn ?_))
  refine Wp.seq (WS.remove (a := ap) (l := pl) (y := itm ts g d) (j := minAt pl) rfl (.inl rfl) (Ev.v rfl rfl (by simp [itm])) rfl (by simp [itm]) (by omega) (fun z hz => ?_) ⟨_, hgm, ?_⟩ (fun m hm z hz => ?_) (wn ?_))
  · obtain ⟨b, hb, _⟩ := vEq_itm (hpi z hz) (isItem_itm ts g d); exact ⟨b, hb⟩
  · obtain ⟨b, hb, hb2⟩ := vEq_itm (isItem_itm ts g d) (isItem_itm ts g d)
    rw [hb, hb2.mpr rfl]
  · obtain ⟨b, hb, hb2⟩ := vEq_itm (hpi z (List.mem_of_getElem? hz)) (isItem_itm ts g d)
    rw [hb]
    cases b with
    | false => rfl
    | true =>
      have e := hb2.mp rfl
      subst e
      have := (List.getElem?_inj (by omega) hpnd).mp (hz.trans hgm.symm)
      omega
  obtain ⟨m, z, rfl⟩ : ∃ m z, l = m ++ [z] := by
    rcases List.eq_nil_or_concat l with h | ⟨m, z, h⟩
    · subst h
      have := hpq.2.1.length_eq
      rw [List.length_map] at this
      exact absurd (List.length_eq_zero_iff.mp this.symm) hne
    · exact ⟨m, z, by simpa using h⟩
  have hml : m.length ≤ 2 ^ 17 := by rw [List.length_append, List.length_singleton] at hllen; omega
  have hpop := popH_ok ordItem (m := m) (z := z) (fun y hy => hli y (by simp [hy])) (hli z (by simp)) hpq.1
  rw [htop] at hpop
  refine Wp.seq (WS.ifEx (Ex.callO (b := ah) (l := m ++ [z]) (rest := []) G.ok rfl (G.fn 2 (by simp)) rfl rfl (.inl rfl) EvA.nil (w2 G cmpItem (fun y hy => hli y (by simp [hy])) (hli z (by simp)) hml)) ?_)
  rintro x ρ'' ⟨l'', ⟨rfl, rfl⟩, rfl⟩
  rw [htop]
  refine ⟨itm ts g d, false, Ev.v rfl rfl (by simp [itm]), ?_, fun h => (by cases h), fun _ => Wp.nil (wn ?_)⟩
  · have : vEq (itm ts g d) (itm ts g d) = some true := by simp [itm, vEq]
    exact CmpOk.eq this
  -- labels[due[1]] = label
  refine Wp.seq (WS.setL (n := d) (a := al) (l := tabI g) (y := .int ((L.length : Int) + 1)) rfl (.inr rfl) (Ev.v rfl) (Ev.subI (ls := foll ts g d) (b := (d : Nat)) (Ev.v rfl rfl (by simp)) (Ev.int 1 _)) rfl (by rw [tabI_len]; exact hd7) (by rw [tabI_len]; omega) rfl (by simp) (wn ?_))
  rw [tabI_set hd7]
  refine Wp.sub (ρ' := ("due", .item (foll ts g d) (d : Nat)) :: ("heap", .list ah (popH vlt m z)) :: ("plain", .list ap (pl.eraseIdx (minAt pl))) :: B13 ts al aw (updI g d ((L.length : Int) + 1)) (fun v => (wcnt (remF L ts) v : Int)))
    (.cons rfl (.cons rfl (.cons rfl (sub13 rfl rfl rfl)))) ?_
  have herase : (itm ts g d :: pl.eraseIdx (minAt pl)).Perm pl := eraseIdx_perm hgm
  have hq := hpq.pop hd hpop.1 hpop.2 herase ((L.length : Int) + 1)
  refine Wp.seq (w13ties G hts (pos := ⟨0, 0, 0, 0⟩) hdL hq fun pl' l' ρ' hq' hsub' => wn (Wp.nil ?_))
  exact hend d pl' l' ρ' hd (hL.step hd hl) hq' hsub'
set_option maxHeartbeats 1000000 in
theorem w13a {c : Cx} (G : Ground c) {ts : List (Nat × Nat)} (hts : Ties ts) (hgo : Goes ts) :
    Wp c 3 (fdef 13).scope ((fdef 13).body.take 6) [("ties", .fl (ts.map pV))] (fun fl ρ' => fl = .nrm ∧ ∃ al ah g L, Sub [("labels", .list al (tabI g)), ("heap", .list ah [])] ρ' ∧ Lab ts L g ∧ L.length = 7) := by
  refine Wp.seq (WS.assignNew (Ev.mulList (n := 7) (x := .int 0) (Ev.list (EvA.cons (Ev.int 0 _) EvA.nil) (by simp [foot]) (by simp)) (Ev.int 7 _) rfl (by omega)) (.inr rfl) (fun al => wn ?_))
  rw [show List.replicate 7 (V.int 0) = tabI fun _ => 0 by rfl]
  refine Wp.seq (WS.compM nV nD nDV (l := List.range 7) (fun _ => true) (fun v => .int (wcnt ts v : Nat)) (Ev.rangeY G (n := 7) (Ev.int 7 _) (by omega)) (fun v hv => ?_) (by simp) (fun aw => wn ?_))
  · have hv7 : v < 7 := by simpa using hv
    refine ⟨rfl, _, rfl, Tsts.nil, fun _ U => El.ofEv (Ev.cast (a := (((ts.filter fun p => p.1 == v).map fun _ => V.int 1).length : Int)) (by unfold wcnt; simp) (Ev.len G (Ev.freeze (Ev.compM pV pD pDV (l := ts) (fun p => p.1 == v) (fun _ => .int 1) (Ev.yields_fl (Ev.v rfl)) (fun p hp => ?_) (by have := hts.len; omega))) rfl (by
      have := List.length_filter_le (fun p : Nat × Nat => p.1 == v) ts
      have := hts.len
      simp; omega))) rfl (by simp)⟩
    exact ⟨rfl, _, bindP _ _ _ _ _ _ p, Tsts.one (Tst.cast (by rw [Bool.eq_iff_iff]; simp only [beq_iff_eq]; omega) (Tst.cmp (Ev.v rfl) (Ev.v rfl rfl (by simp [nV])) (CmpOk.ieq _ _))), fun _ U => El.ofEv (Ev.int 1 _) rfl (by simp)⟩
  rw [show ((List.range 7).filter fun _ => true).map (fun v => V.int (wcnt ts v : Nat)) = tabI fun v => (wcnt ts v : Int) by rw [List.filter_eq_self.mpr (by simp)]; rfl]
  refine Wp.seq (WS.assignNew Ev.nil (.inl rfl) (fun ah => wn ?_))
  refine Wp.seq (WS.assignNew Ev.nil (.inl rfl) (fun ap => wn ?_))
  have hrem0 : remF [] ts = ts := by simp [remF]
  -- the works without followers
  refine Wp.seq (WS.for_ (xs := (List.range 7).map nV) (fun i ρ' => ∃ pl l, Sub (("heap", .list ah l) :: ("plain", .list ap pl) :: B13 ts al aw (fun _ => 0) (fun v => (wcnt ts v : Int))) ρ' ∧ HP vlt l 0 ∧ l.Perm (((List.range i).filter fun v => wcnt ts v == 0).map fun v => V.item [] (v : Nat)) ∧ pl.Perm (((List.range i).filter fun v => wcnt ts v == 0).map fun v => V.item [] (v : Nat)))
    (Ev.rangeY G (n := 7) (Ev.int 7 _) (by omega)) (stT (by rfl)) ⟨[], [], .cons rfl (.cons rfl (sub13 rfl rfl rfl)), fun i hi => by simp at hi, List.Perm.refl _, List.Perm.refl _⟩ ?_ ?_)
  · rintro i x ρ' hx ⟨pl, l, hsub, hh, hp1, hp2⟩
    obtain ⟨hi, rfl⟩ := at7 hx
    have hlen : ((List.range i).filter fun v => wcnt ts v == 0).length ≤ 7 := by
      have := List.length_filter_le (fun v => wcnt ts v == 0) (List.range i)
      rw [List.length_range] at this; omega
    have hl1 : l.length ≤ 7 := by rw [hp1.length_eq, List.length_map]; exact hlen
    have hl2 : pl.length ≤ 7 := by rw [hp2.length_eq, List.length_map]; exact hlen
    have hit : ∀ y ∈ l, isItem y := fun y hy => by
      obtain ⟨v, _, rfl⟩ := List.mem_map.mp (hp1.mem_iff.mp hy); exact ⟨_, _, rfl⟩
    refine ⟨rfl, _, rfl, ?_⟩
    refine Wp.sub (ρ' := ("v", .int (i : Nat)) :: ("heap", .list ah l) :: ("plain", .list ap pl) :: B13 ts al aw (fun _ => 0) (fun v => (wcnt ts v : Int))) (.cons rfl (.cons (hsub _ _ rfl) (.cons (hsub _ _ rfl) (sub13 (hsub _ _ rfl) (hsub _ _ rfl) (hsub _ _ rfl))))) ?_
    have hnx : (List.range (i + 1)).filter (fun v => wcnt ts v == 0) = if wcnt ts i = 0 then ((List.range i).filter fun v => wcnt ts v == 0) ++ [i] else (List.range i).filter fun v => wcnt ts v == 0 := by
      rw [List.range_succ, List.filter_append]
      by_cases h : wcnt ts i = 0 <;> simp [h]
    refine Wp.seq (WS.if_ (b := wcnt ts i == 0) (Tst.cast (by rw [Bool.eq_iff_iff]; simp only [beq_iff_eq]; omega) (Tst.cmp (Ev.subL (n := i) (y := .int (wcnt ts i : Nat)) (Ev.v (V := .list aw (tabI fun v => (wcnt ts v : Int))) rfl) (Ev.v rfl) rfl rfl (tabI_at hi) (by rw [tabI_len]; omega)) (Ev.int 0 _) (CmpOk.ieq _ _))) (fun hz => ?_) (fun hz => Wp.nil (wn (Wp.nil ?_))))
    · have hz' : wcnt ts i = 0 := by simpa using hz
      refine Wp.seq (WS.append (a := ap) (l := pl) (y := .item [] (i : Nat)) rfl (.inl rfl) (Ev.item (ls := []) (Ev.freeze Ev.nil) (Ev.v rfl)) rfl (by simp) (by omega) (wn ?_))
      refine Wp.seq (WS.ifEx (Ex.callO (b := ah) (l := l) (rest := [.item [] (i : Nat)]) G.ok rfl (G.fn 1 (by simp)) rfl rfl (.inl rfl) (EvA.cons (Ev.item (ls := []) (Ev.freeze Ev.nil) (Ev.v rfl)) EvA.nil) (OwnFn.up (w1 G cmpItem hit ⟨_, _, rfl⟩ (by omega)))) ?_)
      rintro v ρ'' ⟨l'', ⟨rfl, rfl⟩, rfl⟩
      refine ⟨.none, false, Ev.none _, CmpOk.isNot_none (by simp), fun h => (by cases h), fun _ => Wp.nil (wn (Wp.nil (wn (Wp.nil ?_))))⟩
      have hpush := pushH_ok ordItem (x := .item [] (i : Nat)) hit ⟨_, _, rfl⟩ hh
      refine ⟨_, _, .cons rfl (.cons rfl (sub13 rfl rfl rfl)), hpush.1, ?_, ?_⟩
      · rw [hnx, if_pos hz', List.map_append]
        exact hpush.2.trans ((List.Perm.cons _ hp1).trans (List.perm_append_comm (l₁ := [V.item [] (i : Nat)])))
      · rw [hnx, if_pos hz', List.map_append]
        exact hp2.append_right _
    · have hz' : ¬ wcnt ts i = 0 := by simpa using hz
      refine ⟨pl, l, .cons rfl (.cons rfl (sub13 rfl rfl rfl)), hh, ?_, ?_⟩
      · rw [hnx, if_neg hz']; exact hp1
      · rw [hnx, if_neg hz']; exact hp2
  rintro ρ' ⟨pl, l, hsub, hh, hp1, hp2⟩
  refine wn (Wp.sub hsub ?_)
  rw [List.length_map, List.length_range] at hp1 hp2
  have hR0 : RF [] (remF [] ts) = (List.range 7).filter fun v => wcnt ts v == 0 := by unfold RF; rw [hrem0]; simp
  have hm0 : (RF [] (remF [] ts)).map (itm ts fun _ => 0) = ((List.range 7).filter fun v => wcnt ts v == 0).map fun v => V.item [] (v : Nat) := by
    rw [hR0]
    apply List.map_congr_left
    intro v hv
    have hv0 : wcnt ts v = 0 := by simpa using (List.mem_filter.mp hv).2
    have : foll ts (fun _ => 0) v = [] := foll_nil fun p hp e => by
      rw [← hrem0] at hv0
      have := wcnt_zero.mp hv0 p hp e
      simp at this
    unfold itm
    rw [this]
  have hpq0 : Pq ts (fun _ => 0) [] (remF [] ts) pl l := ⟨hh, by rw [hm0]; exact hp1, by rw [hm0]; exact hp2, by simp⟩
  have hL0 : Lab ts [] (fun _ => 0) := ⟨by simp, by simp, by simp, fun _ _ _ => rfl, by simp, by simp⟩
  -- label after label
  refine Wp.seq (WS.for_ (xs := upto 1 8) (fun i ρ' => ∃ L g pl l, L.length = i ∧ Sub (("heap", .list ah l) :: ("plain", .list ap pl) :: B13 ts al aw g (fun v => (wcnt (remF L ts) v : Int))) ρ' ∧ Lab ts L g ∧ Pq ts g L (remF L ts) pl l)
    (Ev.yields_rng (Ev.range2 G (Ev.int 1 _) (Ev.int 8 _)) (rangeSmall _ _ (by omega) (by omega) (by omega) (by omega))) (stT (by rfl)) ⟨[], fun _ => 0, pl, l, rfl, by rw [hrem0]; exact .cons rfl (.cons rfl (sub13 rfl rfl rfl)), hL0, hpq0⟩ ?_ ?_)
  · rintro i x ρ' hx ⟨L, g, pl, l, rfl, hsub, hL, hpq⟩
    obtain ⟨hi, rfl⟩ := upto_at hx
    obtain ⟨v, hv1, hv2, hv3⟩ := hgo L hL.nd hL.lt (by omega)
    have hne : RF L (remF L ts) ≠ [] := List.ne_nil_of_mem (RF_mem.mpr ⟨hv1, hv2, wcnt_zero.mpr hv3⟩)
    refine ⟨rfl, _, rfl, ?_⟩
    refine Wp.sub (ρ' := ("label", .int ((L.length : Int) + 1)) :: ("heap", .list ah l) :: ("plain", .list ap pl) :: B13 ts al aw g (fun v => (wcnt (remF L ts) v : Int))) (.cons (by rw [show ((L.length : Int) + 1) = 1 + ((L.length : Nat) : Int) by omega]; rfl) (.cons (hsub _ _ rfl) (.cons (hsub _ _ rfl) (sub13 (hsub _ _ rfl) (hsub _ _ rfl) (hsub _ _ rfl))))) ?_
    exact w13turn G hts hL hne hpq fun d pl' l' ρ' hd hL' hpq' hsub' => ⟨L ++ [d], _, pl', l', by simp, hsub', hL', hpq'⟩
  · rintro ρ' ⟨L, g, pl, l, hlen, hsub, hL, hpq⟩
    have h7 : L.length = 7 := by rw [hlen, upto_len]; rfl
    have hRn : RF L (remF L ts) = [] := by
      rcases List.eq_nil_or_concat (RF L (remF L ts)) with h | ⟨m, v, h⟩
      · exact h
      · exfalso
        have hv : v ∈ RF L (remF L ts) := by rw [h]; simp
        obtain ⟨v1, v2, _⟩ := RF_mem.mp hv
        have := pigeon 7 (v :: L) (List.nodup_cons.mpr ⟨v2, hL.nd⟩) fun x hx => by
          rcases List.mem_cons.mp hx with e | e
          · exact e ▸ v1
          · exact hL.lt x e
        rw [List.length_cons] at this; omega
    have hl : l = [] := by
      have := hpq.2.1.length_eq
      rw [hRn] at this
      exact List.length_eq_zero_iff.mp this
    subst hl
    exact wn (Wp.nil ⟨rfl, al, ah, g, L, .cons (hsub _ _ rfl) (.cons (hsub _ _ rfl) .nil), hL, h7⟩)
end Mine
end
section
open PySem PyProof.Rows PySem.Calls
set_option maxRecDepth 10000
set_option linter.unusedVariables false
set_option linter.unusedSimpArgs false
namespace Mine
theorem call_fnX {c : Cx} {d : DefRec} {ps : List Str} {xs : List V} {A : Around} {s : Shared} {Z : FZ} {a : Addr} {vs : List Value} {R : Value → Shared → Prop} {X : Value → Shared → Prop} (ok : CxOk c) (hS : Sig d ps) (hlen : ps.length = xs.length) (hf : c.mg d.name = some (.ref a)) (hF : FnAt c d)
    (hap : ∀ x y V W, x ≠ y → (ps.zip xs).lookup x = some V → (ps.zip xs).lookup y = some W → ∀ b ∈ foot V, b ∉ foot W)
    (hA : A.depth < recursionLimit) (hB : Base c Z s) (hv : RepL c Z s.heap vs xs)
    (hw : ∀ env s₁, EnvOk d.scope env → env.frame = some env.locals → s.heap.get? env.locals = none → Kp s s₁ →
      St c { h₀ := s.heap, Z₀ := Z, F := fun b => ∃ y W, (ps.zip xs).lookup y = some W ∧ b ∈ foot W } env Z s₁ (ps.zip xs) →
      wpAny (model c.prog c.w) (A.deeper env) (execs d.body env) (fun f s' => R (match f with | .ret v => v | _ => .none) s')
        (fun e s' => wpAny (model c.prog c.w) (A.deeper env) (leaving env e) (fun _ s'' => X e s'') (fun e' s'' => X e' s'') s') s₁) :
    wpAny (model c.prog c.w) A (call (.ref a) vs) R X s := by
  obtain ⟨a', o, pm, code, doc, e1, ho, hd, hcd⟩ := hF
  rw [hf] at e1; cases e1
  have k0 : ∀ b o, c.h₀.get? b = some o → s.heap.get? b = some o := fun b o e => hB.zin b o (hB.base b o e)
  have hvl : vs.length = ps.length := by rw [hv.len, hlen]
  refine wpAny_call ?_
  refine codeAny_call_cells (fd := docDef d.name d.params d.body d.scope pm code doc) (body := d.body) hA (k0 _ _ ho) hd (ok.nolimit.keeps k0) (let ⟨cc, oo, vv, tt, h1, h2, h3⟩ := hcd; ⟨cc, oo, vv, tt, h1, k0 _ _ h2, h3⟩) rfl (hS.bind pm code doc vs hvl) rfl (fun x hx => ?_) (fun s₁ x => ?_) hS.co hS.gen hS.kind
  · have hx1 : x.1 ∈ ps := by
      have : x.1 ∈ (ps.zip vs).map (·.1) := List.mem_map_of_mem hx
      rwa [zip_fst ps vs hvl.symm] at this
    rcases hS.st _ hx1 with q | q
    · exact .inl q
    · refine .inr ⟨q, ?_⟩
      obtain ⟨b, hb⟩ := cellsFrom_has d.scope.names (s.heap.objs.size + 1) x.1 (hS.cellmem _ q)
      cases e : (cellsFrom (s.heap.objs.size + 1) d.scope.names []).lookup x.1 with
      | none => exact absurd (List.lookup_eq_none_iff.mp e (x.1, b) hb) (by simp)
      | some _ => exact e ▸ rfl
  · generalize henv : callEnvC (docDef d.name d.params d.body d.scope pm code doc) s.heap.objs.size a = env at x ⊢
    have hsc : env.scope = d.scope := by rw [← henv]; rfl
    have hL : env.locals = s.heap.objs.size := by rw [← henv]; rfl
    have hcells : env.cells = cellsFrom (s.heap.objs.size + 1) d.scope.names [] := by rw [← henv]; rfl
    have hko : ∀ y, env.kindOf y = d.scope.names.lookup y := fun y => by unfold Env.kindOf; rw [hsc]
    obtain ⟨h1, tk1, hs1⟩ := x.toInCall.same
    have kp : Kp s s₁ := ⟨h1, tk1, hs1, fun b o e => by have := x.toInCall.keep b o e; rw [hs1] at this; exact this⟩
    have up : Up Z s Z s₁ := Up.same hB.zin kp
    have lfr : ∀ b, Loc env b → s.heap.get? b = none := fun b hb => by
      rcases hb with rfl | ⟨y, hy⟩
      · exact fresh_of_lt (Nat.le_of_eq hL.symm)
      · have := x.above y b (mem_of_lookup hy)
        rw [hL] at this
        exact fresh_of_lt (Nat.le_of_lt this)
    have hE : EnvOk d.scope env :=
      { scope := hsc
        kind := hS.kind
        glob := by rw [← henv]; rfl
        bi := by rw [← henv]; rfl
        apart := fun y z b h1 h2 => name_of_addr x.apart (mem_of_lookup h1) (mem_of_lookup h2)
        apartL := fun y b h1 => Ne.symm (Nat.ne_of_lt (x.above y b (mem_of_lookup h1))) }
    have hst : St c { h₀ := s.heap, Z₀ := Z, F := fun b => ∃ y W, (ps.zip xs).lookup y = some W ∧ b ∈ foot W } env Z s₁ (ps.zip xs) :=
      { toBase := hB.up up
        vars := by
          refine ⟨fun y => if env.kindOf y = some .local then bindL env.kindOf (ps.zip vs) (fun _ => none) y else bindC env.kindOf (ps.zip vs) (fun _ => none) y, ⟨⟨_, x.toInCall.ns, fun y hy => by simp only [hy, if_true]⟩, fun y hy => ?_⟩, fun y U hy hg => ?_⟩
          · have hcl : d.scope.names.lookup y = some .cell := by
              rw [hko] at hy
              rcases hy with hy | hy
              · exact hy
              · exact absurd hy (hS.nofree y)
            obtain ⟨b, hb⟩ := cellsFrom_has d.scope.names (s.heap.objs.size + 1) y (hS.cellmem _ hcl)
            cases e : env.cells.lookup y with
            | none => rw [hcells] at e; exact absurd (List.lookup_eq_none_iff.mp e (y, b) hb) (by simp)
            | some b' =>
              refine ⟨b', rfl, ?_⟩
              have nk : ¬ env.kindOf y = some .local := by rw [hko, hcl]; simp
              rw [if_neg nk]
              exact x.cell y b' e
          · obtain ⟨v, h1, h2⟩ := hv.lookup hy
            have ndn : ((ps.zip vs).map (·.1)).Nodup := by rw [zip_fst ps vs hvl.symm]; exact hS.nd
            refine ⟨v, ?_, h2.up up⟩
            by_cases hl : env.kindOf y = some .local
            · simp only [hl, if_true]; exact bindL_at _ _ _ _ _ ndn hl h1
            · simp only [hl, if_false]; exact bindC_at _ _ _ _ _ ndn hl h1
        run := Wr.ofKp kp
        le := FZ.Le.refl Z
        new := fun b o e f => by
          have f' : Z b = none := f
          rw [e] at f'; cases f'
        locZ := fun b hb => Z_fresh hB.zin (lfr b hb)
        locM := fun b hb => .inl (lfr b hb)
        locA := fun b hb => by
          rcases hb with rfl | ⟨y, hy⟩
          · obtain ⟨o, es, ep, e, _⟩ := x.toInCall.ns; exact ⟨o, e⟩
          · obtain ⟨o, e, _⟩ := x.cell y b hy; exact ⟨o, e⟩
        feet := fun y W hy b hb => ⟨.inr ⟨y, W, hy, hb⟩, fun q => by
          obtain ⟨v, _, h2⟩ := hv.lookup hy
          obtain ⟨o, e⟩ := h2.footIn b hb
          rw [lfr b q] at e; cases e⟩
        apart := hap }
    exact hw env s₁ hE (by rw [← henv]; rfl) (fresh_of_lt (Nat.le_of_eq hL.symm)) kp hst
theorem execs_append (l l2 : List Stmt) (env : Env) : execs (l ++ l2) env = (execs l env >>= fun f => match f with | .next => execs l2 env | f => pure f) := by
  induction l with
  | nil =>
    rw [List.nil_append]
    show _ = (pure Flow.next >>= _)
    rw [pure_bind]
  | cons st r ih =>
    rw [List.cons_append]
    show (exec st env >>= fun x => match x with | .next => execs (r ++ l2) env | f => pure f) = ((exec st env >>= fun x => match x with | .next => execs r env | f => pure f) >>= _)
    rw [bind_assoc]
    congr 1
    funext f
    cases f <;> simp [ih]
theorem wpAny_append {prog : Program} {w : World} {A : Around} {s : Shared} {E : Value → Shared → Prop} {Q : Flow → Shared → Prop} {l l2 : List Stmt} {env : Env}
    (h : wpAny (model prog w) A (execs l env) (fun f s' => match f with | .next => wpAny (model prog w) A (execs l2 env) Q E s' | f => Q f s') E s) : wpAny (model prog w) A (execs (l ++ l2) env) Q E s := by
  rw [execs_append]
  refine wpAny_bind (wpAny_mono h (fun f s' h' => ?_) fun _ _ x => x)
  cases f with
  | next => exact h'
  | _ => exact wpAny_pure h'
end Mine
end
section
open PySem PyProof.Rows PySem.Calls
set_option maxRecDepth 10000
set_option linter.unusedVariables false
set_option linter.unusedSimpArgs false
namespace Mine
def frs (l : List Env) : List Addr := l.filterMap (·.frame)
/-- what stands beside the frames -/
def beside (h : Heap) (l : List Env) : Heap := PySem.W.hideAll h (frs l)
theorem beside_in (h : Heap) (l : List Env) : (beside h l).StaysIn h := fun b o e => PySem.W.of_hideAll _ e
theorem beside_get {h : Heap} {l : List Env} {b : Addr} {o : Obj} (e : h.get? b = some o) (n : b ∉ frs l) : (beside h l).get? b = some o := PySem.W.hideAll_get _ e n
theorem beside_none {h : Heap} {l : List Env} {b : Addr} (e : h.get? b = none) : (beside h l).get? b = none := by
  cases q : (beside h l).get? b with
  | none => rfl
  | some o => rw [beside_in h l b o q] at e; cases e
theorem beside_frames {base h : Heap} {l : List Env} (F : h.FunFrames base l) : h.FunFrames (beside h l) l :=
  PySem.W.funFrames_hide F fun env he b hb => List.mem_filterMap.mpr ⟨env, he, hb⟩
theorem funFrames_keeps {base h h' : Heap} {l : List Env} (k : ∀ b o, h.get? b = some o → h'.get? b = some o) (F : h.FunFrames base l) : h'.FunFrames base l := F.of_keeps fun b o e _ => ⟨o, k b o e, rfl⟩
/-- pop of the bare heap -/
theorem pop_raises {c : Cx} (G : Ground c) {A : Around} {s : Shared} {Z : FZ} {b a : Addr} {vs : List Value} {l : List Env} (hm : c.mg (fdef 2).name = some (.ref a)) (hA : Room 1 A) (hfr : A.frames = some l) (hff : s.heap.FunFrames c.h₀ l) (hB : Base c Z s)
    (hv : RepL c Z s.heap vs [.list b []]) :
    wpAny (model c.prog c.w) A (call (.ref a) vs) (fun _ _ => False) (fun e s' => ∃ ea a0 h tk, e = .ref ea ∧ s' = { s with heap := h, toks := tk } ∧ Heap.FlyingW (beside s.heap l) l ea (.type "IndexError") a0 h ∧ s.heap.UpToSlots h) s := by
  refine call_fnX (xs := [.list b []]) G.ok sig2 rfl hm (G.fn 2 (by simp)) (fun x y U W hxy hx hy => ?_) hA.depth hB hv fun env s₁ hE hf hn kp hst => ?_
  · by_cases h1 : x = "heap"
    · by_cases h2 : y = "heap"
      · exact absurd (h1.trans h2.symm) hxy
      · have : List.lookup y [("heap", V.list b [])] = some W := hy
        rw [lookup_cons_ne h2] at this; cases this
    · have : List.lookup x [("heap", V.list b [])] = some U := hx
      rw [lookup_cons_ne h1] at this; cases this
  have hA' : Room 0 (A.deeper env) := hA.deeper env
  refine wpAny_execs_cons (wpAny_Assign_Name (Call_method0 (by rfl) (by rfl) ?_) (by rfl))
  refine wpAny_mono (Ev.name (ρ := [("heap", V.list b [])]) (x := "heap") (V := .list b []) rfl (.inl rfl) (by simp) (by decide) (by decide) env (A.deeper env) s₁ Z hE hA' hst.rd) (fun o s2 ⟨Z2, u2, r2⟩ => ?_) fun _ _ x => x.elim
  obtain ⟨ws, rfl, ⟨n, ho⟩, nz, al⟩ := list_inv r2
  cases al
  refine ⟨"list", "list.pop", PySem.F.plainAttrs_list, PySem.F.slot_list_pop, PySem.F.type_list_pop, ⟨_, ho, rfl⟩, fun a e => by cases e; exact ⟨_, ho, rfl⟩, ?_⟩
  refine seqMethod0_meets PySem.F.slot_list_pop PySem.F.entry_list_pop ⟨_, ho, rfl⟩ (PySem.F.args_list_pop_1 _) (AutoSeq1.list_pop_list_0 b _ n (by rfl)) ⟨ho, hA'.1, fun h' tk e hx => ?_⟩
  have k02 : ∀ q o, s.heap.get? q = some o → s2.heap.get? q = some o := fun q o e => u2.keeps.get q o (kp.get q o e)
  obtain ⟨oe, t, he, hcls, hd⟩ := hx.there
  have kx : ∀ q o, s2.heap.get? q = some o → h'.get? q = some o := hx.keeps
  obtain ⟨m, F, _⟩ := hst.vars
  obtain ⟨m0, hns, _⟩ := F.ns
  have hns' : h'.Ns env.locals m0 := hns.keeps fun q o e => kx q o (u2.keeps.get q o e)
  have hff' : h'.FunFrames (beside s.heap l) (env :: l) := .cons (by rw [hE.scope, hE.kind]; decide) hf hns' (beside_none hn) (funFrames_keeps (fun q o e => kx q o (k02 q o e)) (beside_frames hff))
  have hkb : (beside s.heap l).StaysIn h' := fun q o e => kx q o (k02 q o (beside_in _ _ q o e))
  have hen : (beside s.heap l).get? e = none := by
    refine beside_none ?_
    cases q : s.heap.get? e with
    | none => rfl
    | some o => have := k02 e o q; rw [hx.new] at this; cases this
  refine wpAny_leaving_firstW (a0 := t) (Around.frames_deeper hfr) hff' hf he hkb hen hd rfl rfl fun h'' ⟨l1, ⟨_, _, l2⟩, l3, l4⟩ => ?_
  obtain ⟨hh, th, rfl, _⟩ := kp
  obtain ⟨h2, t2, rfl, _⟩ := u2.keeps
  exact ⟨e, t, h'', _, rfl, rfl, ⟨l1, hen, l2, by rw [← hcls]; exact l3⟩, fun q o e hnf => l4 q o (kx q o (k02 q o e)) hnf⟩
end Mine
end
section
open PySem PyProof.Rows PySem.Calls
set_option maxRecDepth 10000
set_option linter.unusedVariables false
set_option linter.unusedSimpArgs false
namespace Mine
theorem frs_cons {env : Env} {l : List Env} (hf : env.frame = some env.locals) : frs (env :: l) = env.locals :: frs l := by
  unfold frs; rw [List.filterMap_cons, hf]
/-- _law_labels -/
theorem w13 {c : Cx} (G : Ground c) {ts : List (Nat × Nat)} (hts : Ties ts) (hgo : Goes ts) {A : Around} {s : Shared} {Z : FZ} {a : Addr} {vs : List Value} {outer : List Env} (hm : c.mg (fdef 13).name = some (.ref a)) (hA : Room 4 A) (hfr : A.frames = some outer)
    (hff : s.heap.FunFrames c.h₀ outer) (hZ : ∀ b ∈ frs outer, Z b = none) (hB : Base c Z s) (hv : RepL c Z s.heap vs [.fl (ts.map pV)]) :
    wpAny (model c.prog c.w) A (call (.ref a) vs) (fun v s' => ∃ Z' g L, Base c Z' s' ∧ FZ.Le Z Z' ∧ (∀ b o, Z' b = some o → Z b = none → s.heap.get? b = none) ∧ IRep c Z' v (.fl (tabI g)) ∧ Lab ts L g ∧ L.length = 7 ∧
      (∀ b o, s.heap.get? b = some o → b ∉ frs outer → s'.heap.get? b = some o) ∧ s.heap.UpToSlots s'.heap) NoE s := by
  have nofoot : ∀ y W, List.lookup y [(("ties" : Str), V.fl (ts.map pV))] = some W → foot W = [] := fun y W hy => by
    by_cases h1 : y = "ties"
    · subst h1; rw [lookup_cons_eq] at hy; cases hy; rfl
    · rw [lookup_cons_ne h1] at hy; cases hy
  refine call_fnX (xs := [.fl (ts.map pV)]) G.ok sig13 rfl hm (G.fn 13 (by simp)) (fun x y U W _ hx _ b hb => by rw [nofoot x U hx] at hb; cases hb) hA.depth hB hv fun env s₁ hE hf hn kp hst => ?_
  have hA' : Room 3 (A.deeper env) := hA.deeper env
  have hfr' : (A.deeper env).frames = some (env :: outer) := Around.frames_deeper hfr
  rw [← List.take_append_drop 6 (fdef 13).body]
  refine wpAny_append (wpAny_mono (w13a G hts hgo _ env (A.deeper env) s₁ Z hE hA' hst) (fun f s2 ⟨Z2, ρ2, fl, hs2, hfl, hp, al, ah, g, L, hsub, hL, h7⟩ => ?_) fun _ _ x => x.elim)
  subst hp
  cases hfl
  have hs2' := hs2.sub hsub
  obtain ⟨a2, o2, pm2, code2, doc2, hm2, ho2, hdt2, hcd2⟩ := G.fn 2 (by simp)
  refine wpAny_execs_cons (wpAny_Try_except ?_)
  refine wpAny_execs_cons (wpAny_Expr ?_ (by unfold interactive; rw [hE.scope, hE.kind]; rfl) (by rfl))
  refine Call_Name rfl (wpAny_noRaise (name_fn (sc := (fdef 13).scope) G.ok (by rfl) hm2 hE hs2'.toBase ?_ (by decide)))
  refine callWith_def hdt2 (wpAny_mono ((EvA.cons (Ev.name (V := .list ah []) rfl (.inl rfl) (by simp) (by decide) (by decide)) EvA.nil rfl) _ env (A.deeper env) s2 Z2 hE hA' hs2'.rd) (fun vs3 s3 ⟨Z3, u3, r3⟩ => ⟨?_, ?_⟩) fun _ _ x => x.elim) rfl
  · exact (hs2'.up u3).zin _ _ ((hs2'.up u3).base _ _ ho2)
  have hs3 := hs2'.up u3
  -- what the frames' addresses are
  have kF : ∀ b o, s.heap.get? b = some o → s3.heap.get? b = some o := fun b o e => hs3.run.keep b o (fun ⟨y, W, hy, hb⟩ => by rw [nofoot y W hy] at hb; cases hb) e
  have oalive : ∀ b ∈ frs outer, ∃ o, s.heap.get? b = some o := fun b hb => let ⟨_, o, ho, _⟩ := hff.mem hb; ⟨o, ho⟩
  have mineNew : ∀ b, ({ h₀ := s.heap, Z₀ := Z, F := fun b => ∃ y W, List.lookup y [(("ties" : Str), V.fl (ts.map pV))] = some W ∧ b ∈ foot W } : Fx).Mine b → s.heap.get? b = none := fun b hb => by
    rcases hb with hb | ⟨y, W, hy, hb⟩
    · exact hb
    · rw [nofoot y W hy] at hb; cases hb
  have fresh0 : ∀ b, s.heap.get? b = none → b ∉ frs outer := fun b hb q => by obtain ⟨o, e⟩ := oalive b q; rw [hb] at e; cases e
  have hZ3 : ∀ b ∈ frs (env :: outer), Z3 b = none := fun b hb => by
    rw [frs_cons hf] at hb
    rcases List.mem_cons.mp hb with e | e
    · exact e ▸ hs3.locZ _ (.inl rfl)
    · cases q : Z3 b with
      | none => rfl
      | some o => exact absurd e (fresh0 b (mineNew b (hs3.new b o q (hZ b e))))
  obtain ⟨m, F, hmm⟩ := hs3.vars
  obtain ⟨m0, hns, _⟩ := F.ns
  have hbase0 : c.h₀.get? env.locals = none := by
    cases q : c.h₀.get? env.locals with
    | none => rfl
    | some o => have := hB.zin _ _ (hB.base _ _ q); rw [hn] at this; cases this
  have hff3 : s3.heap.FunFrames c.h₀ (env :: outer) := .cons (by rw [hE.scope, hE.kind]; decide) hf hns hbase0 (funFrames_keeps kF hff)
  refine wpAny_mono (pop_raises G hm2 (hA'.mono (by omega)) hfr' hff3 hs3.toBase r3) (fun _ _ x => x.elim) (fun e s4 ⟨ea, a0, h4, tk4, he, hs4, hfly, hup⟩ => ?_)
  subst he
  subst hs4
  refine wpAny_looks_onW hfr' hf hfly fun h5 hheld5 up5 => ?_
  refine wpAny_landsW hheld5 fun h6 hfly6 up6 => ?_
  have stays : ∀ {h' : Heap}, (beside s3.heap (env :: outer)).StaysIn h' → ∀ b o, b ∉ frs (env :: outer) → s3.heap.get? b = some o → h'.get? b = some o := fun hst b o hb e => hst b o (beside_get e hb)
  have zin : ∀ {h' : Heap}, (beside s3.heap (env :: outer)).StaysIn h' → ZIn Z3 h' := fun hst b o e => stays hst b o (fun q => by rw [hZ3 b q] at e; cases e) (hs3.zin b o e)
  refine wpAny_handleBy_builtin (X := "IndexError") (T := "IndexError") (b := true) PySem.F.isExc_IndexError PySem.F.notTuple_IndexError (by rw [isSubtype_type]; kernel_rfl) ?_
  have hB6 : Base c Z3 { s3 with heap := h6, toks := tk4 } := ⟨zin hfly6.1, hs3.base, hs3.gens, hs3.os, hs3.drawn⟩
  refine wpAny_noRaise (name_builtin (sc := (fdef 13).scope) G.ok (by rfl) (G.bi _ (by simp)) PyProof.Rows.Boot.«IndexError» (by decide) hE hB6 ⟨rfl, ?_, ?_⟩)
  · obtain ⟨ob, h1, h2⟩ := hfly6.there
    exact ⟨ob, h1, h2⟩
  refine lands_againW hfly6 fun h7' hfly7 up7 => ?_
  have hcl : env.kindOf ("labels" : Str) = some .cell := by unfold Env.kindOf; rw [hE.scope]; rfl
  obtain ⟨ca, hca, hcell⟩ := F.cell "labels" (.inl hcl)
  obtain ⟨vl, hml, rl⟩ := hmm "labels" (.list al (tabI g)) rfl (by simp)
  obtain ⟨ws, rfl, ⟨nn, hpl⟩, hza, hal⟩ := list_inv rl
  have hnotF : ∀ b, s.heap.get? b = none → b ≠ env.locals → b ∉ frs (env :: outer) := fun b h1 h2 q => by
    rw [frs_cons hf] at q
    rcases List.mem_cons.mp q with e | e
    · exact h2 e
    · exact fresh0 b h1 e
  have hcaF : ca ∉ frs (env :: outer) := hnotF ca (mineNew ca (hs3.locM ca (.inr ⟨_, hca⟩))) (hE.apartL _ _ hca)
  have halM := hs3.feet "labels" (.list al (tabI g)) rfl al (by simp [foot])
  have halF : al ∉ frs (env :: outer) := hnotF al (mineNew al halM.1) (fun q => halM.2 (.inl q))
  have hcell7 : h7'.IsCell ca (some (.ref al)) := by
    rw [hml] at hcell
    obtain ⟨oc, hoc, r⟩ := hcell
    exact ⟨oc, stays hfly7.1 ca oc hcaF hoc, r⟩
  refine wpAny_execs_cons (wpAny_Return_some (wpAny_Name (wpAny_loadName_cell (by rw [hE.scope, hE.kind]) hcl hca hcell7 ?_) (by decide)))
  have hal7 : h7'.get? al = some { cls := .type "list", data := .seq ws.toArray nn } := stays hfly7.1 al _ halF hpl
  have le : FZ.Le Z3 (fun b => if b = al then some { cls := .type "list", data := .seq ws.toArray nn } else Z3 b) := fun b o e => by
    by_cases hb : b = al
    · subst hb; rw [hza] at e; cases e
    · simp [hb, e]
  refine ⟨fun b => if b = al then some { cls := .type "list", data := .seq ws.toArray nn } else Z3 b, g, L, ⟨fun b o e => ?_, fun b o e => le b o (hs3.base b o e), hs3.gens, hs3.os, hs3.drawn⟩, hs3.le.trans le, fun b o e f => ?_, .fl ⟨_, by simp; rfl, rfl, nn, rfl⟩ (hal.mono le), hL, h7, fun b o e hb => ?_, ?_⟩
  · by_cases hb : b = al
    · subst hb; simp at e; subst e; exact hal7
    · simp [hb] at e; exact zin hfly7.1 b o e
  · by_cases hb : b = al
    · subst hb; exact mineNew _ halM.1
    · simp [hb] at e; exact mineNew b (hs3.new b o e f)
  · refine stays hfly7.1 b o (fun q => ?_) (kF b o e)
    rw [frs_cons hf] at q
    rcases List.mem_cons.mp q with q | q
    · rw [q, hn] at e; cases e
    · exact hb q
  · exact ((((Heap.UpToSlots.of_keeps kF).trans hup).trans up5).trans up6).trans up7
end Mine
end
section
open PySem PyProof.Rows PySem.Calls
set_option maxRecDepth 10000
set_option linter.unusedVariables false
set_option linter.unusedSimpArgs false
namespace Mine
theorem Order.goes {f} (O : Order f) : Goes (tieL f) := fun L hnd hlt hlen => by
  obtain ⟨r, hr⟩ := O.rank
  false_or_by_contra
  rename_i hno
  have hex : ∃ v, v < 7 ∧ v ∉ L := by
    false_or_by_contra
    rename_i q
    have := sub_len (a := List.range 7) (b := L) List.nodup_range fun x hx => by
      false_or_by_contra
      rename_i q2
      exact q ⟨x, by simpa using hx, q2⟩
    rw [List.length_range] at this; omega
  have up : ∀ n : Nat, ∃ v, v < 7 ∧ v ∉ L ∧ n ≤ r v := fun n => by
    induction n with
    | zero => obtain ⟨v, h1, h2⟩ := hex; exact ⟨v, h1, h2, Nat.zero_le _⟩
    | succ n ih =>
      obtain ⟨v, h1, h2, h3⟩ := ih
      false_or_by_contra
      rename_i q
      refine hno ⟨v, h1, h2, fun p hp e => ?_⟩
      false_or_by_contra
      rename_i q2
      have ht := tie_mem.mp hp
      have := hr p.1 p.2 ht.1 ht.2.1 (cov_iff.mp ht.2.2).1
      rw [e] at this
      exact q ⟨p.2, ht.2.1, q2, by omega⟩
  obtain ⟨v, h1, _, h3⟩ := up (1 + (r 0 + r 1 + r 2 + r 3 + r 4 + r 5 + r 6))
  have : r v ≤ r 0 + r 1 + r 2 + r 3 + r 4 + r 5 + r 6 := by
    match v, h1 with
    | 0, _ => omega
    | 1, _ => omega
    | 2, _ => omega
    | 3, _ => omega
    | 4, _ => omega
    | 5, _ => omega
    | 6, _ => omega
  omega
def LawP : Fl → Rho → Prop := fun fl _ => fl = .ret (.bool true)
/-- behind the labels -/
theorem w18b {c : Cx} (G : Ground c) {f : Nat → Nat → Bool} (O : Order f) {L : List Nat} {g : Nat → Int} (H : Lab (tieL f) L g) (h7 : L.length = 7) :
    Wp c 4 (fdef 18).scope ((fdef 18).body.drop 3) [("labels", .fl (tabI g)), ("ties", .fl ((tieL f).map pV)), ("before", .fl (rowsV (tab f)))] LawP := by
  have hts := ties_tieL O
  have hg0 : ∀ v, v < 7 → 1 ≤ g v := fun v hv => by obtain ⟨k, _, e⟩ := H.all h7 hv; omega
  have hgt : tabI g = tabI fun v => (((g v).toNat : Nat) : Int) := tabI_congr fun v hv => by have := hg0 v hv; omega
  refine Wp.seq (WS.if_ (b := false) (Tst.cast (a := false || !(sortI ((List.range 7).map g) == [1, 2, 3, 4, 5, 6, 7])) (by rw [H.sorted h7]; decide) (Tst.or (Tst.cmp (Ev.v (V := .fl (tabI g)) rfl) (Ev.none _) (CmpOk.is_none (by simp))) fun _ => Tst.cmp (Ev.freeze (Ev.callB G.ok rfl (G.bi _ (by simp)) (show bootBuiltins "sorted" = some (.builtin "sorted") by decide +kernel) (.inl ⟨_, rfl⟩) (EvA.cons (Ev.v (V := .fl (tabI g)) rfl) EvA.nil) (CallOk.sorted (ns := (List.range 7).map g) (by simp [V.items, tabI]) (by simp)) Pre.new))
    (Ev.freeze (Ev.list (EvA.cons (Ev.int 1 _) (EvA.cons (Ev.int 2 _) (EvA.cons (Ev.int 3 _) (EvA.cons (Ev.int 4 _) (EvA.cons (Ev.int 5 _) (EvA.cons (Ev.int 6 _) (EvA.cons (Ev.int 7 _) EvA.nil))))))) (by simp [foot]) (by simp))) (CmpOk.neInts (ms := [1, 2, 3, 4, 5, 6, 7]) rfl rfl))) (fun h => (by cases h)) (fun _ => Wp.nil (wn ?_)))
  refine Wp.seq (WS.assignR (Ev.callR G.ok rfl (G.fn 14 (by simp)) rfl (EvA.cons (Ev.v (V := .fl ((tieL f).map pV)) rfl) (EvA.cons (Ev.v (V := .fl (tabI fun v => (((g v).toNat : Nat) : Int))) (by rw [← hgt]; rfl)) EvA.nil)) (w14 G hts fun x y hx hy e => by
    obtain ⟨i, hi, _⟩ := H.all h7 hx
    obtain ⟨j, hj, _⟩ := H.all h7 hy
    have := hg0 x hx
    have := hg0 y hy
    exact H.uniq hi hj (by omega))) (.inl rfl) ?_)
  rintro y ⟨hs, rfl, R⟩
  refine wn ?_
  have hS := run_sched O R
  have hlen := hS.len
  refine Wp.seq (WS.if_ (b := false) (Tst.or (b := false) (b' := false) (Tst.cmp (Ev.v (V := .fl (hs.map hourV)) rfl) (Ev.none _) (CmpOk.is_none (by simp))) fun _ => Tst.not (b := true) (Tst.val (Ev.callU G.ok rfl (G.fn 15 (by simp)) rfl (EvA.cons (Ev.v (V := .fl (hs.map hourV)) rfl) (EvA.cons (Ev.v (V := .fl (rowsV (tab f))) rfl) EvA.nil)) (PureFn.up (w15 G hS))) (Tru.bool true))) (fun h => (by cases h)) (fun _ => Wp.nil (wn ?_)))
  refine Wp.seq (WS.for_ (xs := hs.map hourV) (fun i ρ' => Sub [("hours", .fl (hs.map hourV)), ("before", .fl (rowsV (tab f)))] ρ') (Ev.yields_fl (Ev.v rfl)) (stT (by rfl)) (.cons rfl (.cons rfl .nil)) ?_ ?_)
  · rintro i x ρ' hx hsub
    have hi : i < hs.length := by have := (List.getElem?_eq_some_iff.mp hx).1; simpa using this
    have hh : hs[i]? = some hs[i] := by simp
    generalize hs[i] = h at hh
    have hxe : x = hourV h := by
      rw [List.getElem?_map, hh] at hx
      simpa using hx.symm
    subst hxe
    have h2 := (run_hour R hh).2.1
    refine ⟨rfl, _, rfl, ?_⟩
    refine Wp.sub (ρ' := [("hour", hourV h), ("hours", .fl (hs.map hourV)), ("before", .fl (rowsV (tab f)))]) (.cons rfl (.cons (hsub _ _ rfl) (.cons (hsub _ _ rfl) .nil))) ?_
    refine Wp.seq (WS.if_ (b := false) (Tst.cast (by rw [decide_eq_false]; simp; omega) (Tst.cmp (Ev.len G (Ev.v (V := hourV h) rfl rfl (by simp [hourV])) (l := h.map nV) rfl (by simp; omega)) (Ev.int 2 _) (CmpOk.igt _ _))) (fun h => (by cases h)) (fun _ => Wp.nil (wn (Wp.nil ?_))))
    exact .cons rfl (.cons rfl .nil)
  · rintro ρ' hsub
    refine wn (Wp.sub hsub ?_)
    refine Wp.seq (WS.assignR (Ev.callR G.ok rfl (G.fn 16 (by simp)) rfl (EvA.cons (Ev.v (V := .fl (rowsV (tab f))) rfl) EvA.nil) (PureFn.up (w16 G f (run_full O R)))) (.inl rfl) ?_)
    rintro y ⟨t, rfl, ht, hmin⟩
    refine wn ?_
    obtain ⟨e1, e2⟩ := law_math O H h7 R ht hmin
    have e3 : ((7 : Int) - ((mp f 127 : Nat) : Int)) = (t : Int) := by omega
    refine Wp.seq (WS.ret (V := .bool true) (Ev.castB (a := true && true) rfl (Ev.and (Ev.castB (a := (((hs.map hourV).length : Int) == (t : Int))) (by rw [List.length_map, e1]; simp) (Ev.cmp (Ev.len G (Ev.v (V := .fl (hs.map hourV)) rfl) rfl (by simp; omega)) (Ev.v (V := .int (t : Int)) rfl) (CmpOk.ieq _ _))) fun _ => Ev.castB (a := ((t : Int) == (t : Int))) (by simp) (Ev.cmp (Ev.v (V := .int (t : Int)) rfl) (Ev.cast e3 (Ev.iop (Ev.int 7 _) (Ev.callU G.ok rfl (G.fn 17 (by simp)) rfl (EvA.cons (Ev.v (V := .fl (rowsV (tab f))) rfl) EvA.nil) (PureFn.up (w17 G f))) (IntOp.sub _ _))) (CmpOk.ieq _ _)))) rfl (by simp) rfl)
end Mine
end
section
open PySem PyProof.Rows PySem.Calls
set_option maxRecDepth 10000
set_option linter.unusedVariables false
set_option linter.unusedSimpArgs false
namespace Mine
theorem w18a {c : Cx} (G : Ground c) {ns : List Int} (hlen : ns.length ≤ 63) :
    Wp c 4 (fdef 18).scope ((fdef 18).body.take 2) [("script", .fl (ns.map V.int))] (fun fl ρ' => fl = .nrm ∧ ∃ f, Order f ∧ Sub [("ties", .fl ((tieL f).map pV)), ("before", .fl (rowsV (tab f)))] ρ') := by
  refine Wp.seq (WS.assignR (Ev.callR G.ok rfl (G.fn 11 (by simp)) rfl (EvA.cons (Ev.v (V := .fl (ns.map V.int)) rfl) EvA.nil) (PureFn.up (w11 G hlen))) (.inl rfl) ?_)
  rintro y ⟨f, O, rfl⟩
  refine wn ?_
  refine Wp.seq (WS.assign (V := .fl ((tieL f).map pV)) (Ev.callU G.ok rfl (G.fn 12 (by simp)) rfl (EvA.cons (Ev.v (V := .fl (rowsV (tab f))) rfl) EvA.nil) (PureFn.up (w12 G f))) rfl (.inl rfl) (wn (Wp.nil ?_)))
  exact ⟨rfl, f, O, .cons rfl (.cons rfl .nil)⟩
theorem w18 {c : Cx} (G : Ground c) {ns : List Int} (hlen : ns.length ≤ 63) {env : Env} {A : Around} {s : Shared} {Z : FZ} {fx : Fx} (hE : EnvOk (fdef 18).scope env) (hf : env.frame = some env.locals) (hcells : env.cells = []) (hbase : c.h₀.get? env.locals = none)
    (hfr : A.frames = some [env]) (hA : Room 4 A) (hs : St c fx env Z s [("script", .fl (ns.map V.int))]) :
    wpAny (model c.prog c.w) A (execs (fdef 18).body env) (fun f s' => f = .ret (.bool true) ∧ ∃ Z', Base c Z' s') NoE s := by
  rw [← List.take_append_drop 2 (fdef 18).body]
  refine wpAny_append (wpAny_mono (w18a G hlen fx env A s Z hE hA hs) (fun f1 s1 ⟨Z1, ρ1, fl, hs1, hfl, hp, f, O, hsub⟩ => ?_) fun _ _ x => x)
  subst hp
  cases hfl
  have hs1' := hs1.sub hsub
  obtain ⟨a, o, pm, code, doc, hm, ho, hdt, hcd⟩ := G.fn 13 (by simp)
  refine wpAny_execs_cons (wpAny_Assign_Name ?_ (by rfl))
  refine Call_Name rfl (name_fn (sc := (fdef 18).scope) G.ok (by rfl) hm hE hs1'.toBase ?_ (by decide))
  refine callWith_def hdt (wpAny_mono ((EvA.cons (Ev.v (V := .fl ((tieL f).map pV)) rfl) EvA.nil rfl) _ env A s1 Z1 hE hA hs1'.rd) (fun vs2 s2 ⟨Z2, u2, r2⟩ => ⟨?_, ?_⟩) fun _ _ x => x) rfl
  · exact (hs1'.up u2).zin _ _ ((hs1'.up u2).base _ _ ho)
  have hs2 := hs1'.up u2
  obtain ⟨m, F, hmm⟩ := hs2.vars
  obtain ⟨m0, hns, hnsl⟩ := F.ns
  have hff : s2.heap.FunFrames c.h₀ [env] := .cons (by rw [hE.scope, hE.kind]; decide) hf hns hbase trivial
  have hfrs : frs [env] = [env.locals] := by rw [frs_cons hf]; rfl
  refine wpAny_mono (w13 G (ties_tieL O) O.goes hm hA hfr hff (fun b hb => by
    rw [hfrs] at hb
    simp at hb
    exact hb ▸ hs2.locZ _ (.inl rfl)) hs2.toBase r2) (fun v s3 ⟨Z3, g, L, hB3, le3, new3, rv, hL, h7, keep3, up3⟩ => ?_) fun _ _ x => x
  have locEq : ∀ b, Loc env b → b = env.locals := fun b hb => by
    rcases hb with hb | ⟨x, hx⟩
    · exact hb
    · rw [hcells] at hx; cases hx
  have hnc : ∀ x, ¬ (env.kindOf x = some .cell ∨ env.kindOf x = some .free) := fun x hx => by
    obtain ⟨b, hb, _⟩ := F.cell x hx
    rw [hcells] at hb; cases hb
  have nf : ∀ y W, List.lookup y [(("ties" : Str), V.fl ((tieL f).map pV)), ("before", V.fl (rowsV (tab f)))] = some W → foot W = [] := fun y W hy => by
    by_cases h1 : y = "ties"
    · subst h1; rw [lookup_cons_eq] at hy; cases hy; rfl
    · rw [lookup_cons_ne h1] at hy
      by_cases h2 : y = "before"
      · subst h2; rw [lookup_cons_eq] at hy; cases hy; rfl
      · rw [lookup_cons_ne h2] at hy; cases hy
  have hs3 : St c { h₀ := s3.heap, Z₀ := Z3, F := Loc env } env Z3 s3 [("ties", .fl ((tieL f).map pV)), ("before", .fl (rowsV (tab f)))] :=
    { toBase := hB3
      vars := ⟨m, ⟨⟨m0, up3.ns hns, hnsl⟩, fun x hx => absurd hx (hnc x)⟩, fun x W hx hg => by
        obtain ⟨w, h1, h2⟩ := hmm x W hx hg
        exact ⟨w, h1, .imm ((Rep.immOf (r := h2) (nf x W hx) hg).mono le3)⟩⟩
      run := Wr.refl _ _
      le := FZ.Le.refl _
      new := fun b o e q => by
        have q' : Z3 b = none := q
        rw [e] at q'; cases q'
      locZ := fun b hb => by
        cases q : Z3 b with
        | none => rfl
        | some o =>
          obtain ⟨o', e'⟩ := hs2.locA b hb
          rw [new3 b o q (hs2.locZ b hb)] at e'; cases e'
      locM := fun b hb => .inr hb
      locA := fun b hb => by
        rw [locEq b hb]
        obtain ⟨o, es, ep, h1, h2, _⟩ := hns
        obtain ⟨sl, h3⟩ := up3 _ o h1 fun vs q => by rw [h2] at q; cases q
        exact ⟨_, h3⟩
      feet := fun y W hy b hb => by rw [nf y W hy] at hb; cases hb
      apart := fun x y U W _ hx _ b hb => by rw [nf x U hx] at hb; cases hb }
  refine St.store (sc := (fdef 18).scope) (x := "labels") (V := .fl (tabI g)) hE (.inl rfl) hs3 (.imm rv) (fun b hb => by cases hb) (fun y W _ _ b hb => by cases hb) fun h' tk st4 _ => ?_
  refine wpAny_mono (w18b G O hL h7 _ env A _ Z3 hE hA st4) (fun fl s5 ⟨Z5, ρ5, fl5, st5, hfl5, hp5⟩ => ?_) fun _ _ x => x
  have hp5' : fl5 = .ret (.bool true) := hp5
  subst hp5'
  cases hfl5 with
  | ret r =>
    cases r
    exact ⟨rfl, Z5, st5.toBase⟩
end Mine
end
section
open PySem PyProof.Rows PySem.Calls
set_option maxRecDepth 100000
set_option linter.unusedVariables false
set_option linter.unusedSimpArgs false
namespace Mine
theorem ground {w : World} {mg mb : Str → Option Value} {s₁ : Shared} {mean : ExcName → Option Value} (T : Top hd.view_39 (PySem.W.looseW hd.view_39 []) mean mg mb s₁.heap) (B : Tables hd.view_39 w mg s₁.heap) :
    Ground { prog := PySem.Challenge.rw_dj5011_01.row.prog, w := w, h₀ := s₁.heap, mg := mg, mb := mb, os := s₁.os, drawn := s₁.drawn } where
  ok := ⟨T.g, T.b, T.nolimit, T.builtins⟩
  fn := fun i hi => by
    have key : fdef i ∈ recsOf hd.view_39 := by
      simp only [List.mem_cons, List.not_mem_nil, or_false] at hi
      rcases hi with rfl | rfl | rfl | rfl | rfl | rfl | rfl | rfl | rfl | rfl | rfl | rfl | rfl | rfl | rfl
      · exact fmem1
      · exact fmem2
      · exact fmem3
      · exact fmem4
      · exact fmem5
      · exact fmem6
      · exact fmem7
      · exact fmem8
      · exact fmem11
      · exact fmem12
      · exact fmem13
      · exact fmem14
      · exact fmem15
      · exact fmem16
      · exact fmem17
    exact T.fn (fdef i) key
  bi := fun x hx => by
    simp only [List.mem_cons, List.not_mem_nil, or_false] at hx
    rcases hx with rfl | rfl | rfl | rfl | rfl | rfl | rfl | rfl | rfl <;>
      exact T.free _ (by decide +kernel) (by decide +kernel) (by decide +kernel) (by decide +kernel) (by decide +kernel)
  seeds := by
    obtain ⟨a, vs, h1, h2, h3⟩ := B.tupI "_law_SEEDS" [7, 23, 39] (by decide +kernel)
    exact ⟨a, vs, h1, h2, h3⟩
theorem kinds18 : ∀ x, ¬ ((fdef 18).scope.names.lookup x = some NameKind.cell ∨ (fdef 18).scope.names.lookup x = some NameKind.free) := fun x hx => by
  have key : (fdef 18).scope.names.all (fun p => p.2 != NameKind.cell && p.2 != NameKind.free) = true := by decide +kernel
  rcases hx with h | h
  · have := List.all_eq_true.mp key _ (mem_of_lookup h)
    simp at this
  · have := List.all_eq_true.mp key _ (mem_of_lookup h)
    simp at this
theorem law_ends {w : World} {mg mb : Str → Option Value} {s₁ : Shared} {mean : ExcName → Option Value} (T : Top hd.view_39 (PySem.W.looseW hd.view_39 []) mean mg mb s₁.heap) (B : Tables hd.view_39 w mg s₁.heap) (hg : s₁.gens = #[])
    {l : Addr} {vs : List Value} {ns : List Int} (hL : s₁.heap.IsList l vs.toArray) (hI : IntsAre vs ns) (hlen : ¬ ((63 : Nat) : Int) < (ns.length : Int)) {h₁ : Heap} (F : Fr s₁.heap s₁.heap.objs.size h₁ (fun x => List.lookup x [(("script" : Str), Value.ref l)])) {fa : Addr} {cd : Value} {tk : Nat}
    {Q : Flow → Shared → Prop} {E : Value → Shared → Prop} (hQ : ∀ s', (∀ b o, s₁.heap.get? b = some o → s'.heap.get? b = some o) → s'.os = s₁.os → s'.gens = #[] → Q (.ret (.bool true)) s') :
    wpAny (model PySem.Challenge.rw_dj5011_01.row.prog w) (callerA.deeper (envOf (fdef 18).name (fdef 18).scope s₁.heap.objs.size fa cd)) (execs (fdef 18).body (envOf (fdef 18).name (fdef 18).scope s₁.heap.objs.size fa cd)) Q E { s₁ with heap := h₁, toks := tk } := by
  have G := ground (w := w) T B
  generalize henv : envOf (fdef 18).name (fdef 18).scope s₁.heap.objs.size fa cd = env
  have hsc : env.scope = (fdef 18).scope := by rw [← henv]; rfl
  have hloc : env.locals = s₁.heap.objs.size := by rw [← henv]; rfl
  have hcells : env.cells = [] := by rw [← henv]; rfl
  have hfr0 : s₁.heap.get? env.locals = none := fresh_of_lt (Nat.le_of_eq hloc.symm)
  have hE : EnvOk (fdef 18).scope env :=
    { scope := hsc, kind := by rfl, glob := by rw [← henv]; rfl, bi := by rw [← henv]; rfl
      apart := fun x y a h1 _ => by rw [hcells] at h1; cases h1
      apartL := fun x a h1 => by rw [hcells] at h1; cases h1 }
  have locEq : ∀ b, Loc env b → b = env.locals := fun b hb => by
    rcases hb with hb | ⟨x, hx⟩
    · exact hb
    · rw [hcells] at hx; cases hx
  have nf : ∀ y W, List.lookup y [(("script" : Str), V.fl (ns.map V.int))] = some W → W = V.fl (ns.map V.int) ∧ y = "script" := fun y W hy => by
    by_cases h1 : y = "script"
    · subst h1; rw [lookup_cons_eq] at hy; cases hy; exact ⟨rfl, rfl⟩
    · rw [lookup_cons_ne h1] at hy; cases hy
  have hs : St { prog := PySem.Challenge.rw_dj5011_01.row.prog, w := w, h₀ := s₁.heap, mg := mg, mb := mb, os := s₁.os, drawn := s₁.drawn } { h₀ := h₁, Z₀ := fun b => s₁.heap.get? b, F := Loc env } env (fun b => s₁.heap.get? b) { s₁ with heap := h₁, toks := tk } [("script", .fl (ns.map V.int))] :=
    { zin := fun b o e => F.keep b o e
      base := fun b o e => e
      gens := hg
      os := rfl
      drawn := rfl
      vars := by
        refine ⟨fun x => List.lookup x [(("script" : Str), Value.ref l)], ⟨⟨_, ?_, fun x _ => rfl⟩, fun x hx => absurd hx ?_⟩, fun x W hx hg => ?_⟩
        · rw [hloc]; exact F.ns
        · unfold Env.kindOf
          rw [hsc]
          exact kinds18 x
        · obtain ⟨rfl, rfl⟩ := nf x W hx
          obtain ⟨o, ho, hc, n, hd⟩ := hL
          exact ⟨.ref l, rfl, .imm (.fl ⟨o, ho, hc, n, hd⟩ (AllR.ints hI))⟩
      run := Wr.refl _ _
      le := FZ.Le.refl _
      new := fun b o e q => by
        have q' : s₁.heap.get? b = none := q
        rw [e] at q'; cases q'
      locZ := fun b hb => by rw [locEq b hb]; exact hfr0
      locM := fun b hb => .inr hb
      locA := fun b hb => by
        rw [locEq b hb, hloc]
        obtain ⟨o, es, ep, h1, _⟩ := F.ns
        exact ⟨o, h1⟩
      feet := fun y W hy b hb => by rw [(nf y W hy).1] at hb; cases hb
      apart := fun x y U W _ hx _ b hb => by rw [(nf x U hx).1] at hb; cases hb }
  refine wpAny_mono (w18 G (ns := ns) (by omega) hE (by rw [← henv]; rfl) hcells hfr0 (Around.frames_deeper rfl) ⟨rfl, (by show 1 + claimMargin + 1 + 4 ≤ 500; decide), (by show 4 + 3 + 3 * 4 ≤ 500; decide)⟩ hs) (fun f s' ⟨hf, Z', hB⟩ => ?_) fun _ _ x => x.elim
  subst hf
  exact hQ s' (fun b o e => hB.zin b o (hB.base b o e)) hB.os hB.gens
end Mine
end
open PySem PySem.W PyProof.Rows
set_option maxRecDepth 100000 in
theorem Mine.post_true (args : List WData) : PySem.Challenge.rw_dj5011_01.row.claim.post args (.bool true) args = true := by
  show (WShape.has [] (.bool true) .bool && (WTm.eq .res (.lit (.bool true))).holds [] { args := args, res := some (.bool true), after := args }) = true
  rw [Bool.and_eq_true]
  constructor
  · with_unfolding_all rfl
  · have : (WTm.eq .res (.lit (.bool true))).value [] { args := args, res := some (.bool true), after := args } = some (.bool true) := by
      simp [WTm.value]
      first | rfl | decide +kernel | with_unfolding_all rfl | simp [same]
    simp [WTm.holds, this]
set_option maxRecDepth 100000 in
set_option maxHeartbeats 8000000 in
theorem PySem.Challenge.cw_dj5011_01_holds : PySem.Challenge.rw_dj5011_01.Holds := by
  exact Mine.hd (by
    k_go0
    refine Mine.law_ends ‹Top _ _ _ _ _ _› ‹Tables _ _ _ _› (by assumption) (by assumption) (by assumption) (by assumption) (by assumption) fun s' h1 h2 h3 => ?_
    refine ⟨.inl ⟨_, .bool true, [], rfl, fun cls => rfl, .bool true, Mine.post_true _, fun _ => ⟨by simp, by simp⟩⟩, h1, h2, h3⟩)
