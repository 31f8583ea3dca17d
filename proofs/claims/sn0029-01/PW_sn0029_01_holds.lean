import PyProof.Rows.All
import Wide.All
import OpenK.AllK
import Wide.FinOn
import PySem.Challenge.RW_sn0029_01
open PySem PySem.W PySem.Calls PySem.Spec PyProof.Rows
set_option Elab.async false
set_option genSizeOfSpec false
set_option genInjectivity false
set_option compiler.extract_closed false
set_option linter.unusedVariables false
set_option linter.unusedSimpArgs false

namespace Sw
section
set_option maxRecDepth 100000
set_option maxHeartbeats 8000000
open_top hd for PySem.Challenge.rw_sn0029_01
end
end Sw

namespace Sw
section
noncomputable abbrev Fz := Addr → Option Obj
/-- the heap less the hidden addresses -/
noncomputable def frz (h : Heap) (M : List Addr) : Fz := fun b => if b ∈ M then none else h.get? b
noncomputable def Fz.le (f g : Fz) : Prop := ∀ b o, f b = some o → g b = some o
theorem Fz.le.refl (f : Fz) : Fz.le f f := fun _ _ e => e
theorem Fz.le.trans {f g k : Fz} (a : Fz.le f g) (b : Fz.le g k) : Fz.le f k := fun x o e => b x o (a x o e)
theorem frz_some {h : Heap} {M : List Addr} {b : Addr} {o : Obj} : frz h M b = some o ↔ b ∉ M ∧ h.get? b = some o := by
  unfold frz
  by_cases hb : b ∈ M <;> simp [hb]
theorem frz_sub {h : Heap} {M N : List Addr} (k : ∀ a ∈ M, a ∈ N) : Fz.le (frz h N) (frz h M) := fun b o e =>
  let ⟨x, y⟩ := frz_some.mp e; frz_some.mpr ⟨fun q => x (k b q), y⟩
theorem frz_cons {h : Heap} {M : List Addr} {a : Addr} : Fz.le (frz h (a :: M)) (frz h M) := frz_sub fun _ h => List.mem_cons_of_mem _ h
/-- what is hidden besides is new: nothing that was seen is lost -/
theorem frz_hide {h h' : Heap} {M N : List Addr} {ba : Option Addr} (k : ∀ b o, h.get? b = some o → ba ≠ some b → h'.get? b = some o) (hb : ∀ a, ba = some a → a ∈ M) (hn : ∀ n ∈ N, h.get? n = none) : Fz.le (frz h M) (frz h' (N ++ M)) := fun b o e => by
  obtain ⟨x, y⟩ := frz_some.mp e
  refine frz_some.mpr ⟨fun q => ?_, k b o y fun z => x (hb b z)⟩
  rcases List.mem_append.mp q with q | q
  · rw [hn b q] at y; cases y
  · exact x q
theorem frz_nil (h : Heap) : frz h [] = h.get? := by funext b; simp [frz]

mutual
inductive VR (f : Fz) : Value → PyData → Prop
  | none : VR f .none .none
  | bool (b) : VR f (.bool b) (.bool b)
  | int (i t) : VR f (.int i t) (.int i)
  | str (x t) : VR f (.str x t) (.str x)
  | list {a o vs n xs} : f a = some o → o.cls = .type "list" → o.data = .seq vs n → VRs f vs.toList xs → VR f (.ref a) (.list xs)
  | tuple {a o vs n xs} : f a = some o → o.cls = .type "tuple" → o.data = .seq vs n → VRs f vs.toList xs → VR f (.ref a) (.tuple xs)
inductive VRs (f : Fz) : List Value → List PyData → Prop
  | nil : VRs f [] []
  | cons {v vs d ds} : VR f v d → VRs f vs ds → VRs f (v :: vs) (d :: ds)
end

mutual
theorem VR.mono {f g : Fz} (k : Fz.le f g) : ∀ {v : Value} {d : PyData}, VR f v d → VR g v d
  | _, _, .none => .none
  | _, _, .bool b => .bool b
  | _, _, .int i t => .int i t
  | _, _, .str x t => .str x t
  | _, _, .list a b c d => .list (k _ _ a) b c (VRs.mono k d)
  | _, _, .tuple a b c d => .tuple (k _ _ a) b c (VRs.mono k d)
theorem VRs.mono {f g : Fz} (k : Fz.le f g) : ∀ {vs : List Value} {ds : List PyData}, VRs f vs ds → VRs g vs ds
  | _, _, .nil => .nil
  | _, _, .cons a b => .cons (VR.mono k a) (VRs.mono k b)
end
mutual
theorem VR.reads {h : Heap} {M : List Addr} : ∀ {v : Value} {d : PyData}, VR (frz h M) v d → ∃ as, Reads h v d as
  | _, _, .none => ⟨_, .none⟩
  | _, _, .bool b => ⟨_, .bool b⟩
  | _, _, .int i t => ⟨_, .int i t⟩
  | _, _, .str x t => ⟨_, .str x t⟩
  | _, _, .list a b c d => let ⟨_, r⟩ := VRs.reads d; ⟨_, .list (frz_some.mp a).2 b c r⟩
  | _, _, .tuple a b c d => let ⟨_, r⟩ := VRs.reads d; ⟨_, .tuple (frz_some.mp a).2 b c r⟩
theorem VRs.reads {h : Heap} {M : List Addr} : ∀ {vs : List Value} {ds : List PyData}, VRs (frz h M) vs ds → ∃ as, ReadsAll h vs ds as
  | _, _, .nil => ⟨_, .nil⟩
  | _, _, .cons a b => let ⟨_, p⟩ := VR.reads a; let ⟨_, q⟩ := VRs.reads b; ⟨_, .cons p q⟩
end
theorem VRs.length {f : Fz} : ∀ {vs : List Value} {ds : List PyData}, VRs f vs ds → vs.length = ds.length
  | _, _, .nil => rfl
  | _, _, .cons _ b => by rw [List.length_cons, List.length_cons, VRs.length b]
theorem VRs.append {f : Fz} {ws : List Value} {es : List PyData} (k : VRs f ws es) : ∀ {vs : List Value} {ds : List PyData}, VRs f vs ds → VRs f (vs ++ ws) (ds ++ es)
  | _, _, .nil => k
  | _, _, .cons a b => .cons a (VRs.append k b)
theorem VRs.one {f : Fz} {v : Value} {d : PyData} (a : VR f v d) : VRs f [v] [d] := .cons a .nil
theorem VRs.get {f : Fz} : ∀ {vs : List Value} {ds : List PyData}, VRs f vs ds → ∀ {i : Nat} {d : PyData}, ds[i]? = some d → ∃ v, vs[i]? = some v ∧ VR f v d
  | _, _, .nil, _, _, e => by simp at e
  | _, _, .cons a b, 0, _, e => by simp at e; subst e; exact ⟨_, rfl, a⟩
  | _, _, .cons a b, i + 1, _, e => by simp at e; obtain ⟨v, p, q⟩ := VRs.get b e; exact ⟨v, by simpa using p, q⟩
theorem VRs.get' {f : Fz} : ∀ {vs : List Value} {ds : List PyData}, VRs f vs ds → ∀ {i : Nat} {v : Value}, vs[i]? = some v → ∃ d, ds[i]? = some d ∧ VR f v d
  | _, _, .nil, _, _, e => by simp at e
  | _, _, .cons a b, 0, _, e => by simp at e; subst e; exact ⟨_, rfl, a⟩
  | _, _, .cons a b, i + 1, _, e => by simp at e; obtain ⟨v, p, q⟩ := VRs.get' b e; exact ⟨v, by simpa using p, q⟩

/-- what a value may be, in pure terms: a datum; an object with these fields; the shared dict -/
inductive PV where
  | d (x : PyData)
  | inst (C : Addr) (fields : List (String × PyData)) (free : List String)
  | instAt (x dx C : Addr) (fields : List (String × PyData)) (free : List String)
  | rng (a b c : Int)
  | book

noncomputable def NsAt (o : Obj) (es : List DictEntry) : Prop := ∃ n, o = dictOf es n
inductive PR (f : Fz) (ba : Option Addr) : Value → PV → Prop
  | d {v x} : VR f v x → PR f ba v (.d x)
  | inst {x dx C es n fields free} : f x = some (instObj C dx) → f dx = some (dictOf es n) → es.length ≤ fields.length →
      (∀ p ∈ fields, ∃ v, getL (Str.ofString p.1) es = some (some v) ∧ VR f v p.2) → (∀ m ∈ free, getL (Str.ofString m) es = some none) → PR f ba (.ref x) (.inst C fields free)
  | instAt {x dx C es n fields free} : f x = some (instObj C dx) → f dx = some (dictOf es n) → es.length ≤ fields.length →
      (∀ p ∈ fields, ∃ v, getL (Str.ofString p.1) es = some (some v) ∧ VR f v p.2) → (∀ m ∈ free, getL (Str.ofString m) es = some none) → PR f ba (.ref x) (.instAt x dx C fields free)
  | rng {r a b c t u v} : f r = some { cls := .type "range", dict := none, data := .fields #[.int a t, .int b u, .int c v], slots := #[] } → PR f ba (.ref r) (.rng a b c)
  | book {a} : ba = some a → PR f ba (.ref a) .book
theorem PR.mono {f g : Fz} {ba : Option Addr} (k : Fz.le f g) {v : Value} {p : PV} (r : PR f ba v p) : PR g ba v p := by
  cases r with
  | d a => exact .d (a.mono k)
  | inst a b c d e => exact .inst (k _ _ a) (k _ _ b) c (fun p hp => let ⟨v, x, y⟩ := d p hp; ⟨v, x, y.mono k⟩) e
  | instAt a b c d e => exact .instAt (k _ _ a) (k _ _ b) c (fun p hp => let ⟨v, x, y⟩ := d p hp; ⟨v, x, y.mono k⟩) e
  | rng a => exact .rng (k _ _ a)
  | book e => exact .book e
theorem PR.anon {f : Fz} {ba : Option Addr} {v : Value} {x dx C : Addr} {fields free} (r : PR f ba v (.instAt x dx C fields free)) : PR f ba v (.inst C fields free) := by
  cases r with | instAt a b c d e => exact .inst a b c d e
theorem PR.out {f : Fz} {ba : Option Addr} {v : Value} {x : PyData} (r : PR f ba v (.d x)) : VR f v x := by cases r; assumption
inductive PRs (f : Fz) (ba : Option Addr) : List Value → List PV → Prop
  | nil : PRs f ba [] []
  | cons {v vs p ps} : PR f ba v p → PRs f ba vs ps → PRs f ba (v :: vs) (p :: ps)
theorem PRs.mono {f g : Fz} {ba : Option Addr} (k : Fz.le f g) : ∀ {vs : List Value} {ps : List PV}, PRs f ba vs ps → PRs g ba vs ps
  | _, _, .nil => .nil
  | _, _, .cons a b => .cons (a.mono k) (PRs.mono k b)
theorem PRs.length {f : Fz} {ba : Option Addr} : ∀ {vs : List Value} {ps : List PV}, PRs f ba vs ps → vs.length = ps.length
  | _, _, .nil => rfl
  | _, _, .cons _ b => by rw [List.length_cons, List.length_cons, PRs.length b]
theorem PRs.get' {f : Fz} {ba : Option Addr} : ∀ {vs : List Value} {ds : List PV}, PRs f ba vs ds → ∀ {i : Nat} {v : Value}, vs[i]? = some v → ∃ d, ds[i]? = some d ∧ PR f ba v d
  | _, _, .nil, _, _, e => by simp at e
  | _, _, .cons a b, 0, _, e => by simp at e; subst e; exact ⟨_, rfl, a⟩
  | _, _, .cons a b, i + 1, _, e => by simp at e; obtain ⟨v, p, q⟩ := PRs.get' b e; exact ⟨v, by simpa using p, q⟩
theorem VRs.prs {f : Fz} {ba : Option Addr} : ∀ {vs : List Value} {ds : List PyData}, VRs f vs ds → PRs f ba vs (ds.map PV.d)
  | _, _, .nil => .nil
  | _, _, .cons a b => .cons (.d a) (VRs.prs b)

/-- what stays through a step: all but the book -/
noncomputable def Kp (ba : Option Addr) (h h' : Heap) : Prop := ∀ b o, h.get? b = some o → ba ≠ some b → h'.get? b = some o
theorem Kp.refl (ba : Option Addr) (h : Heap) : Kp ba h h := fun _ _ e _ => e
theorem Kp.trans {ba : Option Addr} {h h' h'' : Heap} (a : Kp ba h h') (b : Kp ba h' h'') : Kp ba h h'' := fun x o e n => b x o (a x o e n) n
theorem Kp.of_all {ba : Option Addr} {h h' : Heap} (k : ∀ b o, h.get? b = some o → h'.get? b = some o) : Kp ba h h' := fun b o e _ => k b o e
theorem Kp.push {ba : Option Addr} (h : Heap) (o : Obj) : Kp ba h (h.push o) := Kp.of_all fun _ _ e => Heap.get?_push_of_some _ e

/-- the fixed world: program, world, the heap that stays, what the global names are -/
structure Wd where
  prog : Program
  w : World
  h0 : Heap
  gl : Str → Option Value
  mg : Str → Option Value
  mb : Str → Option Value
  ns : h0.Ns mainGlobals mg
  nb : h0.Ns builtinsNs mb
  gl_ok : ∀ x v, gl x = some v → mg x = some v ∨ (mg x = none ∧ mb x = some v)
  nolim : h0.NoLimit

noncomputable abbrev Wd.md (W : Wd) : Model := model W.prog W.w

noncomputable abbrev Bk := Int → Option Int
noncomputable def BookOk (W : Wd) (ba : Option Addr) (β : Bk) (M : List Addr) (h : Heap) : Prop := match ba with
  | none => True
  | some a => a ∈ M ∧ ∃ g : List (Int × Value), h.DictOf (intKind W.prog W.w) a g ∧ (∀ k, (match β k with | some i => ∃ t, valueAt g k = some (.int i t) | none => valueAt g k = none)) ∧ (a == sysModules) = false

/-- the part of a state that does not speak of a frame -/
structure Co (W : Wd) (d : Nat) (A : Around) (M : List Addr) (ba : Option Addr) (β : Bk) (s : Shared) : Prop where
  hand : A.handled = none
  room : A.depth + d < recursionLimit
  units : A.units + 8 * d + 100 < cLine
  base : ∀ b o, W.h0.get? b = some o → s.heap.get? b = some o ∧ b ∉ M
  live : ∀ m ∈ M, ∃ o, s.heap.get? m = some o
  book : BookOk W ba β M s.heap

theorem Co.toks {W d A M ba β} {s : Shared} (c : Co W d A M ba β s) (tk : Nat) : Co W d A M ba β { s with toks := tk } := ⟨c.hand, c.room, c.units, c.base, c.live, c.book⟩
theorem Co.ba_mem {W d A M β} {s : Shared} {a : Addr} (c : Co W d A M (some a) β s) : a ∈ M := c.book.1
theorem Co.ba_not {W d A M ba β} {s : Shared} (c : Co W d A M ba β s) {b : Addr} (h : b ∉ M) : ba ≠ some b := by
  rintro rfl; exact h c.ba_mem
theorem Co.fle {W d A M ba β} {s : Shared} (c : Co W d A M ba β s) {h' : Heap} (k : Kp ba s.heap h') : Fz.le (frz s.heap M) (frz h' M) := fun b o e => by
  obtain ⟨hb, e⟩ := frz_some.mp e
  exact frz_some.mpr ⟨hb, k b o e (c.ba_not hb)⟩
theorem BookOk.at {W ba β M} {h h' : Heap} (x : BookOk W ba β M h) (k : ∀ a, ba = some a → ∀ o, h.get? a = some o → h'.get? a = some o) : BookOk W ba β M h' := by
  cases ba with
  | none => trivial
  | some a =>
    obtain ⟨hm, g, ⟨o, es, ep, ho, r⟩, q⟩ := x
    exact ⟨hm, g, ⟨o, es, ep, k a rfl o ho, r⟩, q⟩
/-- a step that keeps all objects -/
theorem Co.step {W d A M ba β} {s : Shared} (c : Co W d A M ba β s) {h' : Heap} (tk : Nat) (k : ∀ b o, s.heap.get? b = some o → h'.get? b = some o) : Co W d A M ba β { s with heap := h', toks := tk } :=
  ⟨c.hand, c.room, c.units, fun b o e => ⟨k _ _ (c.base b o e).1, (c.base b o e).2⟩, fun m hm => let ⟨o, e⟩ := c.live m hm; ⟨o, k _ _ e⟩, c.book.at fun a _ o e => k a o e⟩
theorem Co.fresh {W d A M ba β} {s : Shared} (c : Co W d A M ba β s) {a : Addr} (h : s.heap.get? a = none) : a ∉ M := fun hm => by
  obtain ⟨o, e⟩ := c.live a hm; rw [h] at e; cases e
theorem Co.deep {W d d' A M ba β} {s : Shared} (c : Co W d A M ba β s) (h : d' ≤ d) : Co W d' A M ba β s := ⟨c.hand, by have := c.room; omega, by have := c.units; omega, c.base, c.live, c.book⟩
theorem Co.h0f {W d A M ba β} {s : Shared} (c : Co W d A M ba β s) {b : Addr} {o : Obj} (e : W.h0.get? b = some o) : frz s.heap M b = some o := frz_some.mpr ⟨(c.base b o e).2, (c.base b o e).1⟩

/-- results: a value, or a list that is new -/
inductive Res where
  | val (p : PV)
  | new (xs : List PyData)
noncomputable abbrev Res.int (i : Int) : Res := .val (.d (.int i))
noncomputable abbrev Res.bool (i : Bool) : Res := .val (.d (.bool i))
noncomputable abbrev Res.str (i : Str) : Res := .val (.d (.str i))
noncomputable abbrev Res.dat (i : PyData) : Res := .val (.d i)

inductive RR (h h' : Heap) (M : List Addr) (ba : Option Addr) : Value → Res → Prop
  | val {v p} : PR (frz h' M) ba v p → RR h h' M ba v (.val p)
  | new {a k vs xs} : h.get? a = none → h'.get? a = some { cls := .type "list", data := .seq vs k } → VRs (frz h' (a :: M)) vs.toList xs → RR h h' M ba (.ref a) (.new xs)

noncomputable def Res.pv : Res → PV
  | .val p => p
  | .new xs => .d (.list xs)

theorem RR.pr {W d A M ba β} {s : Shared} (c : Co W d A M ba β s) {h' : Heap} {v : Value} {r : Res} (x : RR s.heap h' M ba v r) : PR (frz h' M) ba v r.pv := by
  cases x with
  | val p => exact p
  | new a b c' => exact .d (.list (frz_some.mpr ⟨c.fresh a, b⟩) rfl rfl (c'.mono frz_cons))

/-- what is wanted behind a step -/
noncomputable def Post (W : Wd) (d : Nat) (A : Around) (M : List Addr) (ba : Option Addr) (β' : Bk) (s : Shared) (r : Res) (Q : Value → Shared → Prop) : Prop :=
  ∀ v h' tk, Co W d A M ba β' { s with heap := h', toks := tk } → Kp ba s.heap h' → RR s.heap h' M ba v r → Q v { s with heap := h', toks := tk }

/-- an operation on values, in pure terms -/
noncomputable def Op (W : Wd) (d : Nat) (t : List Value → Sem Value) (ps : List PV) (β : Bk) (r : Res) (β' : Bk) : Prop :=
  ∀ A M ba s vs E Q, Co W d A M ba β s → PRs (frz s.heap M) ba vs ps → Post W d A M ba β' s r Q → wpAny W.md A (t vs) Q E s

theorem Op.deep {W d d' t ps β r β'} (o : Op W d' t ps β r β') (h : d' ≤ d) : Op W d t ps β r β' := fun A M ba s vs E Q c p q =>
  o A M ba s vs E Q (c.deep h) p fun v h' tk c' k x => q v h' tk ⟨c.hand, c.room, c.units, c'.base, c'.live, c'.book⟩ k x

end
end Sw

namespace Sw
section
inductive Loc where | loc | cell | free
inductive Slot where
  | unb
  | fz (p : PV)
  | own (xs : List PyData)
  | glob
structure Var where
  name : String
  at_ : Loc
  slot : Slot
noncomputable abbrev Vars := List Var

noncomputable def okName (x : String) : Prop := (Str.ofString x == ("__debug__" : Str)) = false ∧ (Str.ofString x == ("__classdict__" : Str)) = false
noncomputable def Kind (env : Env) (x : Str) : Loc → Prop
  | .loc => env.kindOf x = some .local
  | .cell => env.kindOf x = some .cell ∧ ∃ c, env.cells.lookup x = some c
  | .free => (env.kindOf x = some .cell ∨ env.kindOf x = some .free) ∧ ∃ c, env.cells.lookup x = some c
noncomputable def Has (env : Env) (h : Heap) (x : Str) (v : Value) : Loc → Prop
  | .loc => ∃ m, h.Ns env.locals m ∧ m x = some v
  | _ => ∃ c, env.cells.lookup x = some c ∧ h.IsCell c (some v)

inductive SlotOk (env : Env) (h : Heap) (M : List Addr) (ba : Option Addr) (O : List (String × Addr)) (x : String) (l : Loc) : Slot → Prop
  | unb : Kind env (Str.ofString x) l → SlotOk env h M ba O x l .unb
  | fz {v p} : Kind env (Str.ofString x) l → Has env h (Str.ofString x) v l → PR (frz h M) ba v p → SlotOk env h M ba O x l (.fz p)
  | own {a k vs xs} : Kind env (Str.ofString x) l → Has env h (Str.ofString x) (.ref a) l → (x, a) ∈ O → a ∈ M →
      h.get? a = some { cls := .type "list", data := .seq vs k } → VRs (frz h M) vs.toList xs → SlotOk env h M ba O x l (.own xs)
  | glob : env.kindOf (Str.ofString x) = some .globalImplicit → SlotOk env h M ba O x l .glob

structure St (W : Wd) (d : Nat) (A : Around) (env : Env) (σ : Vars) (O : List (String × Addr)) (M : List Addr) (ba : Option Addr) (β : Bk) (s : Shared) : Prop where
  co : Co W d A M ba β s
  kind : env.scope.kind = .function
  glob : env.globals = mainGlobals
  blt : env.builtins = builtinsNs
  apart : ba ≠ some env.locals
  lm : env.locals ∈ M
  ns : ∃ m, s.heap.Ns env.locals m
  cm : ∀ x c, env.cells.lookup x = some c → c ∈ M
  cc : ∀ x c, env.cells.lookup x = some c → ∃ v, s.heap.IsCell c v
  cinj : ∀ x y c, env.cells.lookup x = some c → env.cells.lookup y = some c → x = y
  names : ∀ x ∈ σ, okName x.name
  vars : ∀ x ∈ σ, SlotOk env s.heap M ba O x.name x.at_ x.slot

theorem not_map_cell {h : Heap} {a : Addr} {v : Option Value} {prog w} {f : List (Int × Value)} (c : h.IsCell a v) (m : h.DictOf (intKind prog w) a f) : False := by
  obtain ⟨o, e, d⟩ := c
  obtain ⟨o', es, ep, e', _, d', _⟩ := m
  rw [e] at e'; cases e'; rw [d] at d'; cases d'
theorem BookOk.not_cell {W ba β M} {h : Heap} {a : Addr} {v : Option Value} (b : BookOk W ba β M h) (c : h.IsCell a v) : ba ≠ some a := by
  rintro rfl
  obtain ⟨_, g, m, _⟩ := b
  exact not_map_cell c m
theorem BookOk.not_list {W ba β M} {h : Heap} {a : Addr} {vs : Array Value} {k : Nat} (b : BookOk W ba β M h) (c : h.get? a = some { cls := .type "list", data := .seq vs k }) : ba ≠ some a := by
  rintro rfl
  obtain ⟨_, g, m, _⟩ := b
  obtain ⟨o', es, ep, e', _, d', _⟩ := m
  rw [c] at e'; cases e'; cases d'

theorem Has.kp {env : Env} {h h' : Heap} {W ba β M} (bk : BookOk W ba β M h) (ap : ba ≠ some env.locals) (k : Kp ba h h') {x : Str} {v : Value} {l : Loc} (y : Has env h x v l) : Has env h' x v l := by
  cases l with
  | loc =>
    obtain ⟨m, ⟨o, es, ep, e, r⟩, q⟩ := y
    exact ⟨m, ⟨o, es, ep, k _ _ e ap, r⟩, q⟩
  | cell =>
    obtain ⟨c, e, z⟩ := y
    exact ⟨c, e, let ⟨o, p, q⟩ := z; ⟨o, k _ _ p (bk.not_cell z), q⟩⟩
  | free =>
    obtain ⟨c, e, z⟩ := y
    exact ⟨c, e, let ⟨o, p, q⟩ := z; ⟨o, k _ _ p (bk.not_cell z), q⟩⟩

/-- a step that keeps all but the book keeps what the frame says -/
theorem St.step {W d A env σ O M ba β β'} {s : Shared} (t : St W d A env σ O M ba β s) {h' : Heap} {tk : Nat} (c : Co W d A M ba β' { s with heap := h', toks := tk }) (k : Kp ba s.heap h') :
    St W d A env σ O M ba β' { s with heap := h', toks := tk } := by
  have bk := t.co.book
  refine ⟨c, t.kind, t.glob, t.blt, t.apart, t.lm, let ⟨m, o, es, ep, e, r⟩ := t.ns; ⟨m, o, es, ep, k _ _ e t.apart, r⟩, t.cm,
    fun x c hc => let ⟨v, y⟩ := t.cc x c hc; ⟨v, let ⟨o, p, q⟩ := y; ⟨o, k _ _ p (bk.not_cell y), q⟩⟩, t.cinj, t.names, fun ⟨nm, l, sl⟩ hx => ?_⟩
  have le := t.co.fle k
  have y : SlotOk env s.heap M ba O nm l sl := t.vars _ hx
  show SlotOk env h' M ba O nm l sl
  cases y with
  | unb a => exact .unb a
  | fz a b c => exact .fz a (b.kp bk t.apart k) (c.mono le)
  | own a b c d e f => exact .own a (b.kp bk t.apart k) c d (k _ _ e (bk.not_list e)) (f.mono le)
  | glob a => exact .glob a
theorem St.deep {W d d' A env σ O M ba β} {s : Shared} (t : St W d A env σ O M ba β s) (h : d' ≤ d) : St W d' A env σ O M ba β s := ⟨t.co.deep h, t.kind, t.glob, t.blt, t.apart, t.lm, t.ns, t.cm, t.cc, t.cinj, t.names, t.vars⟩

/-- an expression's value -/
structure Ev (W : Wd) (d : Nat) (σ : Vars) (β : Bk) (e : Expr) (r : Res) (β' : Bk) : Prop where
  run : ∀ A env O M ba s E Q, St W d A env σ O M ba β s → Post W d A M ba β' s r Q → wpAny W.md A (eval e env) Q E s
/-- a test -/
structure Et (W : Wd) (d : Nat) (σ : Vars) (β : Bk) (e : Expr) (b : Bool) (β' : Bk) : Prop where
  run : ∀ A env O M ba s E Q, St W d A env σ O M ba β s → (∀ h' tk, Co W d A M ba β' { s with heap := h', toks := tk } → Kp ba s.heap h' → Q b { s with heap := h', toks := tk }) →
    wpAny W.md A (isTrue e env (eval e env)) Q E s
/-- the arguments of a call, the parts of a display -/
structure Evs (W : Wd) (d : Nat) (σ : Vars) (β : Bk) (es : List Expr) (ps : List PV) (β' : Bk) : Prop where
  run : ∀ A env O M ba s E Q pos, St W d A env σ O M ba β s →
    (∀ vs h' tk, Co W d A M ba β' { s with heap := h', toks := tk } → Kp ba s.heap h' → PRs (frz h' M) ba vs ps → Q vs { s with heap := h', toks := tk }) →
    wpAny W.md A (spliced (backTo pos (starEach es env))) Q E s

theorem Ev.val {W d σ β e r β'} (x : Ev W d σ β e r β') : Ev W d σ β e (.val r.pv) β' := .mk fun A env O M ba s E Q t q =>
  x.run A env O M ba s E Q t fun v h' tk c k y => q v h' tk c k (.val (y.pr t.co))
theorem Ev.list {W d σ β e xs β'} (x : Ev W d σ β e (.new xs) β') : Ev W d σ β e (.dat (.list xs)) β' := x.val
theorem Op.val {W d t ps β r β'} (x : Op W d t ps β r β') : Op W d t ps β (.val r.pv) β' := fun A M ba s vs E Q c p q =>
  x A M ba s vs E Q c p fun v h' tk c' k y => q v h' tk c' k (.val (y.pr c))

/-- two steps, one behind the other -/
theorem RR.later {W d A M ba β} {s : Shared} {h₁ h' : Heap} (c : Co W d A M ba β s) {β1 : Bk} {tk1 : Nat} (c1 : Co W d A M ba β1 { s with heap := h₁, toks := tk1 }) (k : Kp ba s.heap h₁) {v : Value} {r : Res} (x : RR h₁ h' M ba v r) : RR s.heap h' M ba v r := by
  cases x with
  | val p => exact .val p
  | @new a _ _ _ a' b c' =>
    refine .new ?_ b c'
    cases e : s.heap.get? a with
    | none => rfl
    | some o =>
      by_cases hb : ba = some a
      · subst hb
        obtain ⟨o', e'⟩ := c1.live a c1.ba_mem
        have e'' : h₁.get? a = some o' := e'
        rw [a'] at e''; cases e''
      · rw [k a o e hb] at a'; cases a'
theorem Post.later {W d A M ba β β1 β'} {s : Shared} {h₁ : Heap} {tk1 : Nat} {r : Res} {Q : Value → Shared → Prop} (c : Co W d A M ba β s) (c1 : Co W d A M ba β1 { s with heap := h₁, toks := tk1 }) (k : Kp ba s.heap h₁) (q : Post W d A M ba β' s r Q) :
    Post W d A M ba β' { s with heap := h₁, toks := tk1 } r Q := fun v h' tk c' k' x => q v h' tk c' (k.trans k') (x.later c c1 k)

theorem Evs.nil {W d σ β} : Evs W d σ β [] [] β := .mk fun A env O M ba s E Q pos t q =>
  args_nil (q [] s.heap s.toks t.co (Kp.refl _ _) .nil)
theorem Evs.cons {W d σ β β1 β' e es r ps} (x : Ev W d σ β e r β1) (y : Evs W d σ β1 es ps β') (he : ∀ env, starEach (e :: es) env = (false, eval e env) :: starEach es env := by intro _; rfl) : Evs W d σ β (e :: es) (r.pv :: ps) β' := .mk
  fun A env O M ba s E Q pos t q => by
    refine args_cons (x.run A env O M ba s E _ t fun v h1 tk1 c1 k1 r1 => ?_) (he env)
    refine y.run A env O M ba _ E _ pos (t.step c1 k1) fun vs h2 tk2 c2 k2 r2 => ?_
    exact q _ h2 tk2 c2 (k1.trans k2) (.cons ((r1.pr t.co).mono (c1.fle k2)) r2)

/-- a name of the frame -/
theorem Ev.var {W d σ β x l p pos} (h : (⟨x, l, .fz p⟩ : Var) ∈ σ) : Ev W d σ β (.Name (Str.ofString x) pos) (.val p) β := .mk fun A env O M ba s E Q t q => by
  have nm := t.names _ h
  refine wpAny_Name ?_ nm.1
  have fin : ∀ v, PR (frz s.heap M) ba v p → Q v s := fun v y => q v s.heap s.toks t.co (Kp.refl _ _) (.val y)
  have y : SlotOk env s.heap M ba O x l (.fz p) := t.vars _ h
  cases y with
  | fz a b c =>
    cases l with
    | loc => obtain ⟨m, n, e⟩ := b; exact wpAny_loadName_local t.kind a n e (fin _ c)
    | cell => obtain ⟨m, n, e⟩ := b; exact wpAny_loadName_cell t.kind a.1 n e (fin _ c)
    | free =>
      obtain ⟨m, n, e⟩ := b
      rcases a.1 with a | a
      · exact wpAny_loadName_cell t.kind a n e (fin _ c)
      · exact wpAny_loadName_free t.kind a n e (fin _ c) nm.2
theorem Ev.int {W d σ β i k pos} : Ev W d σ β (.Constant (.int i) k pos) (.int i) β := .mk fun A env O M ba s E Q t q =>
  wpAny_Constant_int (q _ s.heap _ (t.co.toks _) (Kp.refl _ _) (.val (.d (.int _ _))))
theorem Ev.str {W d σ β x k pos} : Ev W d σ β (.Constant (.str x) k pos) (.str x) β := .mk fun A env O M ba s E Q t q =>
  Constant_str (q _ s.heap _ (t.co.toks _) (Kp.refl _ _) (.val (.d (.str _ _))))
theorem Ev.boolc {W d σ β b k pos} : Ev W d σ β (.Constant (.bool b) k pos) (.bool b) β := .mk fun A env O M ba s E Q t q =>
  wpAny_pure (q _ s.heap s.toks t.co (Kp.refl _ _) (.val (.d (.bool _))))

theorem Ev.bin {W d σ β β1 β2 β' l r op pos p q x} (a : Ev W d σ β l p β1) (b : Ev W d σ β1 r q β2) (o : Op W d (fun vs => binaryOp op (vs.getD 0 .none) (vs.getD 1 .none)) [p.pv, q.pv] β2 x β') :
    Ev W d σ β (.BinOp l op r pos) x β' := .mk fun A env O M ba s E Q t k => by
  refine wpAny_BinOp (a.run A env O M ba s E _ t fun v h1 tk1 c1 k1 r1 => b.run A env O M ba _ E _ (t.step c1 k1) fun u h2 tk2 c2 k2 r2 => ?_)
  refine o A M ba _ [v, u] E _ c2 (.cons ((r1.pr t.co).mono (c1.fle k2)) (.cons (r2.pr c1) .nil)) (Post.later (s := s) t.co c2 (k1.trans k2) k)
theorem Ev.cmp {W d σ β β1 β2 β' l r op pos p q x} (a : Ev W d σ β l p β1) (b : Ev W d σ β1 r q β2) (o : Op W d (fun vs => compareOp op (vs.getD 0 .none) (vs.getD 1 .none)) [p.pv, q.pv] β2 x β')
    (hm : behindInMarks op r = false := by rfl) :
    Ev W d σ β (.Compare l [op] [r] pos) x β' := .mk fun A env O M ba s E Q t k => by
  refine wpAny_Compare1 (a.run A env O M ba s E _ t fun v h1 tk1 c1 k1 r1 => b.run A env O M ba _ E _ (t.step c1 k1) fun u h2 tk2 c2 k2 r2 => ?_) hm
  refine o A M ba _ [v, u] E _ c2 (.cons ((r1.pr t.co).mono (c1.fle k2)) (.cons (r2.pr c1) .nil)) (Post.later (s := s) t.co c2 (k1.trans k2) k)
theorem Et.cmp {W d σ β β1 β2 β' l r op pos p q x} (a : Ev W d σ β l p β1) (b : Ev W d σ β1 r q β2) (o : Op W d (fun vs => compareOp op (vs.getD 0 .none) (vs.getD 1 .none)) [p.pv, q.pv] β2 (.bool x) β')
    (hm : behindInMarks op r = false := by rfl) :
    Et W d σ β (.Compare l [op] [r] pos) x β' := .mk fun A env O M ba s E Q t k => by
  refine wpAny_isTrue_Compare1 (a.run A env O M ba s E _ t fun v h1 tk1 c1 k1 r1 => b.run A env O M ba _ E _ (t.step c1 k1) fun u h2 tk2 c2 k2 r2 => ?_) hm
  refine o A M ba _ [v, u] E _ c2 (.cons ((r1.pr t.co).mono (c1.fle k2)) (.cons (r2.pr c1) .nil)) fun v' h3 tk3 c3 k3 r3 => ?_
  cases r3 with
  | val r3 =>
    have := r3.out
    cases this
    exact wpAny_truthy_bool (k _ _ c3 ((k1.trans k2).trans k3))
end
end Sw

namespace Sw
section
/-- a value's truth -/
noncomputable def Tr (p : PV) (b : Bool) : Prop := ∀ (W : Wd) d A M ba β s v E (Q : Bool → Shared → Prop), Co W d A M ba β s → PR (frz s.heap M) ba v p → (∀ tk, Q b { s with toks := tk }) → wpAny W.md A (truthy v) Q E s
theorem Tr.int {i : Int} : Tr (.d (.int i)) (i != 0) := fun W d A M ba β s v E Q c p q => by
  cases p.out; exact truthy_int (q s.toks)
theorem Tr.bool {b : Bool} : Tr (.d (.bool b)) b := fun W d A M ba β s v E Q c p q => by
  cases p.out; exact wpAny_truthy_bool (q s.toks)
theorem Tr.str {x : Str} (h : x.length ≤ 2 ^ 24) : Tr (.d (.str x)) ((x.length : Int) != 0) := fun W d A M ba β s v E Q c p q => by
  cases p.out; exact P.truthy_str (by omega) (q _)

theorem Et.of {W d σ β β' e r b} (x : Ev W d σ β e r β') (t : Tr r.pv b)
    (he : ∀ env, isTrue e env (eval e env) = (do let v ← eval e env; standAt e.pos; holding [v] (truthy v)) := by intro _; rfl) : Et W d σ β e b β' := .mk fun A env O M ba s E Q st q => by
  refine isTrue_plain (x.run A env O M ba s E _ st fun v h1 tk1 c1 k1 r1 => t W d A M ba β' _ v E _ c1 (r1.pr st.co) fun tk => q h1 tk (c1.toks tk) k1) (he env)
theorem Et.not {W d σ β β' e b pos} (x : Et W d σ β e b β') : Et W d σ β (.UnaryOp .Not e pos) (!b) β' := .mk fun A env O M ba s E Q st q =>
  isTrue_not (x.run A env O M ba s E _ st fun h1 tk1 c1 k1 => q h1 tk1 c1 k1)
theorem Et.and {W d σ β β1 β' e₁ e₂ a b pos} (x : Et W d σ β e₁ a β1) (y : a = true → Et W d σ β1 e₂ b β') (z : a = false → β' = β1) : Et W d σ β (.BoolOp .And [e₁, e₂] pos) (a && b) β' := .mk fun A env O M ba s E Q st q => by
  refine isTrue_and (x.run A env O M ba s E _ st fun h1 tk1 c1 k1 => ?_)
  cases a with
  | false => have e := z rfl; subst e; exact q h1 tk1 c1 k1
  | true =>
    rw [if_pos rfl]
    refine isTrue_and ((y rfl).run A env O M ba _ E _ (st.step c1 k1) fun h2 tk2 c2 k2 => ?_)
    cases b with
    | false => exact q h2 tk2 c2 (k1.trans k2)
    | true => exact isTrue_and_nil (q h2 tk2 c2 (k1.trans k2))
theorem Et.or {W d σ β β1 β' e₁ e₂ a b pos} (x : Et W d σ β e₁ a β1) (y : a = false → Et W d σ β1 e₂ b β') (z : a = true → β' = β1) : Et W d σ β (.BoolOp .Or [e₁, e₂] pos) (a || b) β' := .mk fun A env O M ba s E Q st q => by
  refine isTrue_or (x.run A env O M ba s E _ st fun h1 tk1 c1 k1 => ?_)
  cases a with
  | true => have e := z rfl; subst e; exact q h1 tk1 c1 k1
  | false =>
    rw [if_neg Bool.false_ne_true]
    refine isTrue_or ((y rfl).run A env O M ba _ E _ (st.step c1 k1) fun h2 tk2 c2 k2 => ?_)
    cases b with
    | true => exact q h2 tk2 c2 (k1.trans k2)
    | false => exact isTrue_or_nil (q h2 tk2 c2 (k1.trans k2))
theorem Et.and' {W d σ β e₁ e₂ a b pos} (x : Et W d σ β e₁ a β) (y : a = true → Et W d σ β e₂ b β) : Et W d σ β (.BoolOp .And [e₁, e₂] pos) (a && b) β := Et.and x y fun _ => rfl
theorem Et.or' {W d σ β e₁ e₂ a b pos} (x : Et W d σ β e₁ a β) (y : a = false → Et W d σ β e₂ b β) : Et W d σ β (.BoolOp .Or [e₁, e₂] pos) (a || b) β := Et.or x y fun _ => rfl

/-- a chain of two comparisons, as a test; ints -/
theorem Et.chain2 {W d σ β l o₁ r₁ o₂ r₂ pos p q r a b} (x : Ev W d σ β l (.val p) β) (y : Ev W d σ β r₁ (.val q) β) (z : Ev W d σ β r₂ (.val r) β)
    (u : Op W d (fun vs => compareOp o₁ (vs.getD 0 .none) (vs.getD 1 .none)) [p, q] β (.bool a) β)
    (v : Op W d (fun vs => compareOp o₂ (vs.getD 0 .none) (vs.getD 1 .none)) [q, r] β (.bool b) β) (hm : lastMarks [o₁, o₂] [r₁, r₂] = false := by rfl) :
    Et W d σ β (.Compare l [o₁, o₂] [r₁, r₂] pos) (a && b) β := .mk fun A env O M ba s E Q t k => by
  refine isTrue_chain (x.run A env O M ba s E _ t fun v1 h1 tk1 c1 k1 r1 => ?_) hm
  show wpAny _ _ (do
    let rv ← holding [v1] (eval r₁ env)
    standAt pos
    let c ← holding [v1, rv] (compareOp o₁ v1 rv)
    release [v1, rv] [c]
    if ← holding [c, rv] (truthy c) then (do
      let rv' ← holding [rv] (eval r₂ env)
      standAt pos
      let c ← operate [rv, rv'] (compareOp o₂ rv rv')
      holding [c] (truthy c)) else pure false) _ _ _
  refine wpAny_bind (wpAny_holding (y.run A env O M ba _ E _ (t.step c1 k1) fun v2 h2 tk2 c2 k2 r2 => ?_))
  refine wpAny_bind (wpAny_standAt (wpAny_bind (wpAny_holding ?_)))
  refine u A M ba _ [v1, v2] E _ c2 (.cons ((r1.pr t.co).mono (c1.fle k2)) (.cons (r2.pr c1) .nil)) fun v3 h3 tk3 c3 k3 r3 => ?_
  cases r3 with
  | val r3 =>
    cases r3.out
    have rel : ∀ {α : Type} {f : PUnit → Sem α} {Q : α → Shared → Prop} {s : Shared}, wpAny W.md A (f ⟨⟩) Q E s → wpAny W.md A (release [v1, v2] [Value.bool a] >>= f) Q E s := fun h => wpAny_bind (by
      intro Γ p hΓ
      rw [Sem.wp_release]
      exact h)
    refine rel ?_
    refine wpAny_bind (wpAny_holding (wpAny_truthy_bool ?_))
    cases a with
    | false => exact wpAny_pure (k h3 tk3 c3 ((k1.trans k2).trans k3))
    | true =>
      refine wpAny_bind (wpAny_holding (z.run A env O M ba _ E _ (((t.step c1 k1).step c2 k2).step c3 k3) fun v4 h4 tk4 c4 k4 r4 => ?_))
      refine wpAny_bind (wpAny_standAt (wpAny_bind (wpAny_operating ?_)))
      refine v A M ba _ [v2, v4] E _ c4 (.cons ((r2.pr c1).mono ((c2.fle k3).trans (c3.fle k4))) (.cons (r4.pr c3) .nil)) fun v5 h5 tk5 c5 k5 r5 => ?_
      cases r5 with
      | val r5 =>
        cases r5.out
        exact wpAny_holding (wpAny_truthy_bool (k h5 tk5 c5 ((((k1.trans k2).trans k3).trans k4).trans k5)))

theorem Ev.ife {W d σ β β1 β' t x y b r pos} (a : Et W d σ β t b β1) (h : b = true → Ev W d σ β1 x r β') (h' : b = false → Ev W d σ β1 y r β') : Ev W d σ β (.IfExp t x y pos) r β' := .mk fun A env O M ba s E Q st q => by
  refine IfExp_ (a.run A env O M ba s E _ st fun h1 tk1 c1 k1 => ?_)
  cases b with
  | true => rw [if_pos rfl]; exact (h rfl).run A env O M ba _ E _ (st.step c1 k1) (Post.later (s := s) st.co c1 k1 q)
  | false => rw [if_neg Bool.false_ne_true]; exact (h' rfl).run A env O M ba _ E _ (st.step c1 k1) (Post.later (s := s) st.co c1 k1 q)
theorem Ev.not {W d σ β β' e r b pos} (x : Ev W d σ β e r β') (t : Tr r.pv b) : Ev W d σ β (.UnaryOp .Not e pos) (.bool (!b)) β' := .mk fun A env O M ba s E Q st q =>
  UnaryOp_ (x.run A env O M ba s E _ st fun v h1 tk1 c1 k1 r1 => not_of (t W d A M ba β' _ v E _ c1 (r1.pr st.co) fun tk => q _ h1 tk (c1.toks tk) k1 (.val (.d (.bool _)))))

/-- data alone, out of values -/
theorem PRs.dat {f : Fz} {ba : Option Addr} : ∀ {vs : List Value} {xs : List PyData}, PRs f ba vs (xs.map PV.d) → VRs f vs xs
  | _, [], .nil => .nil
  | _, _ :: _, .cons a b => .cons a.out (PRs.dat b)

theorem push_new {W d A M ba β} {s : Shared} (c : Co W d A M ba β s) (o : Obj) (hf : o.isFreed = false) (tk : Nat) :
    Co W d A M ba β { s with heap := s.heap.push o, toks := tk } ∧ Kp ba s.heap (s.heap.push o) ∧ s.heap.get? s.heap.objs.size = none ∧ (s.heap.push o).get? s.heap.objs.size = some o ∧ frz (s.heap.push o) M s.heap.objs.size = some o := by
  have k : ∀ b o', s.heap.get? b = some o' → (s.heap.push o).get? b = some o' := fun b o' e => Heap.get?_push_of_some _ e
  have hn : s.heap.get? s.heap.objs.size = none := by
    cases e : s.heap.get? s.heap.objs.size with
    | none => rfl
    | some o' => exact absurd (Heap.lt_size e) (Nat.lt_irrefl _)
  have hs := Heap.get?_push_size s.heap hf
  exact ⟨c.step tk k, Kp.of_all k, hn, hs, frz_some.mpr ⟨c.fresh hn, hs⟩⟩

theorem new_tuple {M : Model} {A : Around} {E : Value → Shared → Prop} {s : Shared} {vs : List Value} {Q : Value → Shared → Prop} (h : Q (.ref s.heap.objs.size) { s with heap := s.heap.push { cls := .type "tuple", data := .seq vs.toArray } }) (hl : vs.length ≤ 2 ^ 24) : wpAny M A (newTuple vs) Q E s :=
  wpAny_newObj_type h (by show vs.toArray.size ≤ sizeLine; rw [List.size_toArray]; exact hl)
theorem new_list {M : Model} {A : Around} {E : Value → Shared → Prop} {s : Shared} {vs : List Value} {Q : Value → Shared → Prop} (h : Q (.ref s.heap.objs.size) { s with heap := s.heap.push { cls := .type "list", data := .seq vs.toArray } }) (hl : vs.length ≤ 2 ^ 24) : wpAny M A (newList vs) Q E s :=
  wpAny_newObj_type h (by show vs.toArray.size ≤ sizeLine; rw [List.size_toArray]; exact hl)
theorem Ev.tuple {W d σ β β' es ps xs n pos} (x : Evs W d σ β es ps β') (hx : ps = xs.map PV.d) (hl : xs.length ≤ 2 ^ 24) : Ev W d σ β (.Tuple es n pos) (.dat (.tuple xs)) β' := .mk fun A env O M ba s E Q st q => by
  refine Tuple_ (x.run A env O M ba s E _ pos st fun vs h1 tk1 c1 k1 r1 => ?_)
  subst hx
  have r := r1.dat
  obtain ⟨c2, k2, hn, hs, hf⟩ := push_new c1 { cls := .type "tuple", data := .seq vs.toArray } rfl tk1
  refine new_tuple (q (.ref h1.objs.size) (h1.push { cls := .type "tuple", data := .seq vs.toArray }) tk1 c2 (k1.trans k2) (.val (.d (.tuple hf rfl rfl ?_)))) ?_
  · simpa using r.mono (c1.fle k2)
  · rw [r.length]; exact hl
theorem Ev.listd {W d σ β β' es ps xs pos} (x : Evs W d σ β es ps β') (hx : ps = xs.map PV.d) (hl : xs.length ≤ 2 ^ 24) : Ev W d σ β (.List es pos) (.new xs) β' := .mk fun A env O M ba s E Q st q => by
  refine List_ (x.run A env O M ba s E _ pos st fun vs h1 tk1 c1 k1 r1 => ?_)
  subst hx
  have r := r1.dat
  obtain ⟨c2, k2, hn, hs, hf⟩ := push_new c1 { cls := .type "list", data := .seq vs.toArray } rfl tk1
  have r2 : VRs (frz (h1.push { cls := .type "list", data := .seq vs.toArray }) (h1.objs.size :: M)) vs.toArray.toList xs := by
    simpa using r.mono (frz_hide (N := [h1.objs.size]) k2 (fun a e => by subst e; exact c1.ba_mem) (fun n hm => by rw [List.mem_singleton.mp hm]; exact hn))
  exact new_list (q (.ref h1.objs.size) (h1.push { cls := .type "list", data := .seq vs.toArray }) tk1 c2 (k1.trans k2) (RR.later (s := s) (h₁ := h1) st.co c1 k1 (RR.new hn hs r2))) (by rw [r.length]; exact hl)

/-- who keeps a callee through its call -/
noncomputable def KeepOk (W : Wd) (f : Value) : Prop := ∀ h : Heap, (∀ b o, W.h0.get? b = some o → h.get? b = some o) → ∃ k, (k = Keeper.frame ∨ k = Keeper.machine ∨ k = Keeper.boundFrame) ∧ Looks W.md h (keeperOf f) k
theorem KeepOk.builtin {W : Wd} {id : String} : KeepOk W (.builtin id) := fun _ _ => ⟨.machine, .inr (.inl rfl), Looks.of_pure rfl⟩
theorem KeepOk.type {W : Wd} {id : String} : KeepOk W (.type id) := fun _ _ => ⟨.machine, .inr (.inl rfl), Looks.of_pure rfl⟩
theorem KeepOk.func {W : Wd} {f : Addr} {o : Obj} {fd : FuncData} (h : W.h0.get? f = some o) (hd : o.data = .func fd) : KeepOk W (.ref f) := fun _ k => ⟨.frame, .inl rfl, (Looks.ld (part := none) (k _ _ h)).andThen (by rw [hd]; exact .now)⟩
theorem KeepOk.frag {W : Wd} {K : Frag} {f : Value} (h : keepIn K f = true) (x : K.In W.h0) : KeepOk W f := fun h' k => keeps_K h h' (x.keeps k)

/-- a global name's call -/
structure Fn (W : Wd) (d : Nat) (x : String) (ps : List PV) (β : Bk) (r : Res) (β' : Bk) : Prop where
  ex : ∃ f, W.gl (Str.ofString x) = some f ∧ KeepOk W f ∧ Op W d (fun vs => call f vs) ps β r β'

theorem plain_args {env : Env} {pos : Pos} : ∀ {es : List Expr} (_ : es.all (fun e => !isStarred e) = true), (backTo pos (starEach es env)).any (·.1) = false ∧ (∀ e r, es = e :: r → starEach es env = (false, eval e env) :: starEach r env)
  | [], _ => ⟨rfl, fun _ _ h => nomatch h⟩
  | e :: r, h => by
    simp only [List.all_cons, Bool.and_eq_true] at h
    have ih := (plain_args (env := env) (pos := pos) h.2).1
    have he : starEach (e :: r) env = (false, eval e env) :: starEach r env := by
      cases e <;> first | rfl | (exfalso; simp [isStarred] at h)
    refine ⟨?_, fun e' r' q => by cases q; exact he⟩
    rw [he]; show (false || (backTo pos (starEach r env)).any (·.1)) = false
    rw [ih]; rfl

theorem callWith_any {W : Wd} {A : Around} {E : Value → Shared → Prop} {s : Shared} {env : Env} {pos : Pos} {f : Value} {first : List Value} {e : Expr} {es : List Expr} {Q : Value → Shared → Prop} (hs : (e :: es).all (fun e => !isStarred e) = true) (hk : KeepOk W f)
    (h : wpAny W.md A (spliced (backTo pos (starEach (e :: es) env))) (fun vs s₁ => (∀ b o, W.h0.get? b = some o → s₁.heap.get? b = some o) ∧ wpAny W.md A (call f (first ++ vs)) Q E s₁) E s) :
    wpAny W.md A (callWith pos f first (backTo pos (starEach (e :: es) env)) []) Q E s := by
  have pl := plain_args (env := env) (pos := pos) hs
  refine callWith_of (P := fun h => ∀ b o, W.h0.get? b = some o → h.get? b = some o) (by rw [pl.1]; rfl) hk ?_
  rw [pl.2 e es rfl] at h ⊢
  exact evalArgs_plain h
theorem callWith_nil {W : Wd} {A : Around} {E : Value → Shared → Prop} {s : Shared} {env : Env} {pos : Pos} {f : Value} {first : List Value} {Q : Value → Shared → Prop} (hk : KeepOk W f)
    (hb : ∀ b o, W.h0.get? b = some o → s.heap.get? b = some o) (h : wpAny W.md A (call f (first ++ [])) Q E s) :
    wpAny W.md A (callWith pos f first (backTo pos (starEach [] env)) []) Q E s :=
  callWith_of (P := fun h => ∀ b o, W.h0.get? b = some o → h.get? b = some o) rfl hk (evalArgs_nil3 ⟨hb, h⟩)

/-- a global name's value -/
theorem gl_name {W : Wd} {d A env σ O M ba β} {s : Shared} (st : St W d A env σ O M ba β s) {x : String} {l : Loc} (h : (⟨x, l, .glob⟩ : Var) ∈ σ) {f : Value} (hf : W.gl (Str.ofString x) = some f) {pos : Pos} {Q : Value → Shared → Prop} {E : Value → Shared → Prop} (q : Q f s) :
    wpAny W.md A (eval (.Name (Str.ofString x) pos) env) Q E s := by
  have y : SlotOk env s.heap M ba O x l .glob := st.vars _ h
  cases y with
  | glob k =>
    have n1 : s.heap.Ns env.globals W.mg := st.glob ▸ W.ns.at' fun o e => (st.co.base _ o e).1
    have n2 : s.heap.Ns env.builtins W.mb := st.blt ▸ W.nb.at' fun o e => (st.co.base _ o e).1
    refine Name_function_global st.kind k ?_ (st.names _ h).1
    rcases W.gl_ok _ _ hf with e | ⟨e, e'⟩
    · exact loadGlobal_global n1 e q
    · exact loadGlobal_builtin n1 e n2 e' q

theorem call_eq (x : Str) (np : Pos) (args : List Expr) (pos : Pos) (env : Env) : eval (.Call (.Name x np) args [] pos) env = (do callWith pos (← eval (.Name x np) env) [] (backTo pos (starEach args env)) (backToKw pos (keywordEach [] env))) := rfl

theorem Ev.call {W d σ β β1 β' x l e es ps r np pos} (h : (⟨x, l, .glob⟩ : Var) ∈ σ) (a : Evs W d σ β (e :: es) ps β1) (f : Fn W d x ps β1 r β') (hs : (e :: es).all (fun e => !isStarred e) = true := by rfl) :
    Ev W d σ β (.Call (.Name (Str.ofString x) np) (e :: es) [] pos) r β' := .mk fun A env O M ba s E Q st q => by
  obtain ⟨f, hf, hk, op⟩ := f.ex
  rw [call_eq]
  refine wpAny_bind (gl_name st h hf ?_)
  refine callWith_any hs hk (a.run A env O M ba s E _ pos st fun vs h1 tk1 c1 k1 r1 => ⟨fun b o e => (c1.base b o e).1, ?_⟩)
  exact op A M ba _ vs E _ c1 r1 (Post.later (s := s) st.co c1 k1 q)

/-- the function that a method's name finds at a value -/
noncomputable def MethAt (W : Wd) (p : PV) (name : Str) (f : Value) : Prop :=
  ∀ d A M ba β s v E pl (Q : Value × List Value → Shared → Prop), Co W d A M ba β s → PR (frz s.heap M) ba v p → (∀ tk, Q (f, [v]) { s with toks := tk }) → wpAny W.md A (getMethod v name pl) Q E s
structure Mt (W : Wd) (d : Nat) (p : PV) (x : String) (ps : List PV) (β : Bk) (r : Res) (β' : Bk) : Prop where
  ex : ∃ f, MethAt W p (Str.ofString x) f ∧ KeepOk W f ∧ Op W d (fun vs => PySem.call f vs) (p :: ps) β r β'

theorem Ev.meth {W d σ β β1 β2 β' o p x e es ps r ap pos} {pl : Env → Sem Bool} (a : Ev W d σ β o p β1) (b : Evs W d σ β1 (e :: es) ps β2) (f : Mt W d p.pv x ps β2 r β')
    (he : ∀ env, eval (.Call (.Attribute o (Str.ofString x) ap) (e :: es) [] pos) env = (do
      let ov ← eval o env
      standAt ap.atName
      let (f, first) ← holding [ov] (getMethod ov (Str.ofString x) (pl env))
      callWith pos f first (backTo pos (starEach (e :: es) env)) (backToKw pos (keywordEach [] env))) := by intro _; rfl) (hs : (e :: es).all (fun e => !isStarred e) = true := by rfl) :
    Ev W d σ β (.Call (.Attribute o (Str.ofString x) ap) (e :: es) [] pos) r β' := .mk fun A env O M ba s E Q st q => by
  obtain ⟨f, hf, hk, op⟩ := f.ex
  refine methodCall_KW (pl := pl env) ?_ (he env)
  refine a.run A env O M ba s E _ st fun v h1 tk1 c1 k1 r1 => ?_
  refine hf d A M ba β1 _ v E _ _ c1 (r1.pr st.co) fun tk => ?_
  have c1' := c1.toks tk
  refine callWith_any hs hk (b.run A env O M ba _ E _ pos (st.step c1' k1) fun vs h2 tk2 c2 k2 r2 => ⟨fun b o e => (c2.base b o e).1, ?_⟩)
  exact op A M ba _ (v :: vs) E _ c2 (.cons ((r1.pr st.co).mono (c1'.fle k2)) r2) (Post.later (s := s) st.co c2 (k1.trans k2) q)
theorem Ev.meth0 {W d σ β β1 β' o p x r ap pos} {pl : Env → Sem Bool} (a : Ev W d σ β o p β1) (f : Mt W d p.pv x [] β1 r β')
    (he : ∀ env, eval (.Call (.Attribute o (Str.ofString x) ap) [] [] pos) env = (do
      let ov ← eval o env
      standAt ap.atName
      let (f, first) ← holding [ov] (getMethod ov (Str.ofString x) (pl env))
      callWith pos f first (backTo pos (starEach [] env)) (backToKw pos (keywordEach [] env))) := by intro _; rfl) :
    Ev W d σ β (.Call (.Attribute o (Str.ofString x) ap) [] [] pos) r β' := .mk fun A env O M ba s E Q st q => by
  obtain ⟨f, hf, hk, op⟩ := f.ex
  refine methodCall_KW (pl := pl env) ?_ (he env)
  refine a.run A env O M ba s E _ st fun v h1 tk1 c1 k1 r1 => ?_
  refine hf d A M ba β1 _ v E _ _ c1 (r1.pr st.co) fun tk => ?_
  have c1' := c1.toks tk
  refine callWith_nil hk (fun b o e => (c1'.base b o e).1) ?_
  exact op A M ba _ [v] E _ c1' (.cons (r1.pr st.co) .nil) (Post.later (s := s) st.co c1' k1 q)
end
end Sw

namespace Sw
section
noncomputable def Vars.put (σ : Vars) (x : String) (sl : Slot) : Vars := σ.map fun v => if v.name == x then ⟨x, v.at_, sl⟩ else v
theorem Vars.mem_put {σ : Vars} {x : String} {sl : Slot} {v : Var} (h : v ∈ σ.put x sl) : (∃ u ∈ σ, u.name = x ∧ v = ⟨x, u.at_, sl⟩) ∨ (v ∈ σ ∧ v.name ≠ x) := by
  obtain ⟨u, hu, e⟩ := List.mem_map.mp h
  by_cases hx : (u.name == x) = true
  · rw [if_pos hx] at e; exact .inl ⟨u, hu, by simpa using hx, e.symm⟩
  · rw [if_neg hx] at e; subst e; exact .inr ⟨hu, by simpa using hx⟩

theorem ofString_inj {x y : String} (h : Str.ofString x = Str.ofString y) : x = y := by
  rw [Str.ofString_eq_toList, Str.ofString_eq_toList] at h
  have h1 : x.toList.map Char.toNat = y.toList.map Char.toNat := by simpa using h
  have h2 : x.toList = y.toList := by
    have inj : Function.Injective Char.toNat := fun a b e => by
      apply Char.ext
      exact UInt32.toNat_inj.mp e
    exact List.map_inj_right (fun a b e => inj e) |>.mp h1
  exact String.toList_inj.mp h2

theorem SlotOk.kind {env h M ba O x l sl} (y : SlotOk env h M ba O x l sl) (hg : sl ≠ .glob) : Kind env (Str.ofString x) l := by
  cases y with
  | unb a => exact a
  | fz a => exact a
  | own a => exact a
  | glob => exact absurd rfl hg

theorem Co.but {W d A M ba β} {s : Shared} (c : Co W d A M ba β s) {a : Addr} (ha : a ∈ M) (hb : ba ≠ some a) {h' : Heap} (hs : Heap.SameBut a s.heap h') (hl : ∃ o, h'.get? a = some o) (tk : Nat) :
    Co W d A M ba β { s with heap := h', toks := tk } ∧ Fz.le (frz s.heap M) (frz h' M) :=
  have k : ∀ b o, b ≠ a → s.heap.get? b = some o → h'.get? b = some o := fun b o n e => (hs.2 b n).trans e
  ⟨⟨c.hand, c.room, c.units, fun b o e => ⟨k b o (fun z => (c.base b o e).2 (z ▸ ha)) (c.base b o e).1, (c.base b o e).2⟩,
    fun m hm => by
      by_cases z : m = a
      · subst z; exact hl
      · obtain ⟨o, e⟩ := c.live m hm; exact ⟨o, k m o z e⟩,
    c.book.at fun b e o e' => k b o (fun z => hb (z ▸ e)) e'⟩,
   fun b o e => let ⟨x, y⟩ := frz_some.mp e; frz_some.mpr ⟨x, k b o (fun z => x (z ▸ ha)) y⟩⟩

theorem ns_not_cell {h : Heap} {a : Addr} {m v} (n : h.Ns a m) (c : h.IsCell a v) : False := by
  obtain ⟨o, es, ep, e, d, _⟩ := n
  obtain ⟨o', e', d'⟩ := c
  rw [e] at e'; cases e'; rw [d] at d'; cases d'
theorem ns_not_list {h : Heap} {a : Addr} {m vs k} (n : h.Ns a m) (c : h.get? a = some { cls := .type "list", data := .seq vs k }) : False := by
  obtain ⟨o, es, ep, e, d, _⟩ := n
  rw [e] at c; cases c; cases d
theorem cell_not_list {h : Heap} {a : Addr} {v vs k} (n : h.IsCell a v) (c : h.get? a = some { cls := .type "list", data := .seq vs k }) : False := by
  obtain ⟨o, e, d⟩ := n
  rw [e] at c; cases c; cases d

/-- where a stored name lies -/
noncomputable def Place (env : Env) (x : Str) (l : Loc) (a : Addr) : Prop := match l with
  | .loc => a = env.locals
  | _ => env.cells.lookup x = some a

theorem wp_storeG {W d A env σ O M ba β} {s : Shared} (t : St W d A env σ O M ba β s) {x : String} {l : Loc} {sl ns : Slot} (hx : (⟨x, l, sl⟩ : Var) ∈ σ) (hl : l ≠ .free) (hg : sl ≠ .glob) {v : Value}
    (mk : ∀ h' a, Heap.SameBut a s.heap h' → (a = env.locals ∨ ∃ y, env.cells.lookup y = some a) → Fz.le (frz s.heap M) (frz h' M) → ∀ l', Kind env (Str.ofString x) l' → Has env h' (Str.ofString x) v l' → SlotOk env h' M ba O x l' ns)
    {E : Value → Shared → Prop} {Q : Unit → Shared → Prop}
    (q : ∀ h' tk a, St W d A env (σ.put x ns) O M ba β { s with heap := h', toks := tk } → Heap.SameBut a s.heap h' → Place env (Str.ofString x) l a → Q () { s with heap := h', toks := tk }) :
    wpAny W.md A (storeName env (Str.ofString x) v) Q E s := by
  have hk := (t.vars _ hx).kind hg
  have nm := t.names _ hx
  have names' : ∀ y ∈ σ.put x ns, okName y.name := fun y hy => by
    rcases Vars.mem_put hy with ⟨u, hu, e, rfl⟩ | ⟨hu, _⟩
    · exact nm
    · exact t.names _ hu
  cases l with
  | free => exact absurd rfl hl
  | loc =>
    obtain ⟨m, n⟩ := t.ns
    refine wpAny_storeName_local hk n (fun h' hn hs => ?_) (by rw [t.kind]; rfl)
    obtain ⟨c', le⟩ := t.co.but t.lm t.apart hs (let ⟨o, _, _, e, _⟩ := hn; ⟨o, e⟩) (s.toks + 1)
    have cell' : ∀ {c w}, s.heap.IsCell c w → h'.IsCell c w := fun {c w} y => y.sameBut hs fun z => ns_not_cell n (z ▸ y)
    refine q h' _ _ ⟨c', t.kind, t.glob, t.blt, t.apart, t.lm, ⟨_, hn⟩, t.cm, fun y c hc => let ⟨w, z⟩ := t.cc y c hc; ⟨w, cell' z⟩, t.cinj, names', fun y hy => ?_⟩ hs rfl
    rcases Vars.mem_put hy with ⟨u, hu, e, rfl⟩ | ⟨hu, hne⟩
    · obtain ⟨un, ul, us⟩ := u
      subst e
      have hu' : SlotOk env s.heap M ba O un ul us := t.vars _ hu
      have ku : us = .glob ∨ Kind env (Str.ofString un) ul := by by_cases z : us = .glob; exact .inl z; exact .inr (hu'.kind z)
      cases ul with
      | loc => exact mk h' _ hs (.inl rfl) le .loc hk ⟨_, hn, by simp⟩
      | cell =>
        exfalso
        rcases ku with z | z
        · subst z; cases hu' with | glob g => rw [show env.kindOf (Str.ofString un) = some .local from hk] at g; cases g
        · have := z.1; rw [show env.kindOf (Str.ofString un) = some .local from hk] at this; cases this
      | free =>
        exfalso
        rcases ku with z | z
        · subst z; cases hu' with | glob g => rw [show env.kindOf (Str.ofString un) = some .local from hk] at g; cases g
        · have := z.1; rw [show env.kindOf (Str.ofString un) = some .local from hk] at this; rcases this with z | z <;> cases z
    · obtain ⟨un, ul, us⟩ := y
      have hu' : SlotOk env s.heap M ba O un ul us := t.vars _ hu
      have has : ∀ {v}, Has env s.heap (Str.ofString un) v ul → Has env h' (Str.ofString un) v ul := fun {v} z => by
        cases ul with
        | loc =>
          obtain ⟨m2, n2, e2⟩ := z
          have : m2 (Str.ofString un) = m (Str.ofString un) := by
            obtain ⟨o, es, ep, e, d, _, f⟩ := n
            obtain ⟨o', es', ep', e', d', _, f'⟩ := n2
            rw [e] at e'; cases e'; rw [d] at d'; cases d'
            rw [← f, ← f']
          refine ⟨_, hn, ?_⟩
          rw [if_neg (fun z => hne (ofString_inj z)), ← this]; exact e2
        | cell => obtain ⟨c, e, z⟩ := z; exact ⟨c, e, cell' z⟩
        | free => obtain ⟨c, e, z⟩ := z; exact ⟨c, e, cell' z⟩
      cases hu' with
      | unb a => exact .unb a
      | fz a b c => exact .fz a (has b) (c.mono le)
      | own a b c d e f => exact .own a (has b) c d ((hs.2 _ fun z => ns_not_list n (z ▸ e)).trans e) (f.mono le)
      | glob a => exact .glob a
  | cell =>
    obtain ⟨c, hc⟩ := hk.2
    obtain ⟨v₀, hcell⟩ := t.cc _ c hc
    refine wpAny_storeName_cell t.kind hk.1 hc hcell fun h' hc' hs => ?_
    have hcM := t.cm _ c hc
    obtain ⟨m, n⟩ := t.ns
    have hbc : ba ≠ some c := t.co.book.not_cell hcell
    obtain ⟨c', le⟩ := t.co.but hcM hbc hs (let ⟨o, e, _⟩ := hc'; ⟨o, e⟩) s.toks
    have hLc : env.locals ≠ c := fun z => ns_not_cell n (z ▸ hcell)
    have n' := n.sameBut hs hLc
    refine q h' s.toks c ⟨c', t.kind, t.glob, t.blt, t.apart, t.lm, ⟨_, n'⟩, t.cm, fun y c2 hc2 => ?_, t.cinj, names', fun y hy => ?_⟩ hs hc
    · by_cases z : c2 = c
      · subst z; exact ⟨_, hc'⟩
      · obtain ⟨w, y⟩ := t.cc y c2 hc2; exact ⟨w, y.sameBut hs z⟩
    rcases Vars.mem_put hy with ⟨u, hu, e, rfl⟩ | ⟨hu, hne⟩
    · obtain ⟨un, ul, us⟩ := u
      subst e
      have hu' : SlotOk env s.heap M ba O un ul us := t.vars _ hu
      cases ul with
      | loc =>
        exfalso
        by_cases z : us = .glob
        · subst z; cases hu' with | glob g => rw [hk.1] at g; cases g
        · have h1 : env.kindOf (Str.ofString un) = some .local := hu'.kind z
          have h2 : env.kindOf (Str.ofString un) = some .cell := hk.1
          rw [h1] at h2; cases h2
      | cell => exact mk h' c hs (.inr ⟨_, hc⟩) le .cell hk ⟨c, hc, hc'⟩
      | free => exact mk h' c hs (.inr ⟨_, hc⟩) le .free ⟨.inl hk.1, hk.2⟩ ⟨c, hc, hc'⟩
    · obtain ⟨un, ul, us⟩ := y
      have hu' : SlotOk env s.heap M ba O un ul us := t.vars _ hu
      have hc2 : ∀ c2, env.cells.lookup (Str.ofString un) = some c2 → c2 ≠ c := fun c2 e z => hne (ofString_inj (t.cinj _ _ c (z ▸ e) hc))
      have has : ∀ {v}, Has env s.heap (Str.ofString un) v ul → Has env h' (Str.ofString un) v ul := fun {v} z => by
        cases ul with
        | loc => obtain ⟨m2, n2, e2⟩ := z; exact ⟨m2, n2.sameBut hs hLc, e2⟩
        | cell => obtain ⟨c2, e, z⟩ := z; exact ⟨c2, e, z.sameBut hs (hc2 c2 e)⟩
        | free => obtain ⟨c2, e, z⟩ := z; exact ⟨c2, e, z.sameBut hs (hc2 c2 e)⟩
      cases hu' with
      | unb a => exact .unb a
      | fz a b c => exact .fz a (has b) (c.mono le)
      | own a b c d e f => exact .own a (has b) c d ((hs.2 _ fun z => cell_not_list hcell (z ▸ e)).trans e) (f.mono le)
      | glob a => exact .glob a
theorem wp_store {W d A env σ O M ba β} {s : Shared} (t : St W d A env σ O M ba β s) {x : String} {l : Loc} {sl : Slot} (hx : (⟨x, l, sl⟩ : Var) ∈ σ) (hl : l ≠ .free) (hg : sl ≠ .glob) {v : Value} {p : PV} (hv : PR (frz s.heap M) ba v p)
    {E : Value → Shared → Prop} {Q : Unit → Shared → Prop}
    (q : ∀ h' tk a, St W d A env (σ.put x (.fz p)) O M ba β { s with heap := h', toks := tk } → Heap.SameBut a s.heap h' → Place env (Str.ofString x) l a → Q () { s with heap := h', toks := tk }) :
    wpAny W.md A (storeName env (Str.ofString x) v) Q E s :=
  wp_storeG t hx hl hg (fun h' a _ _ le l' hk hh => .fz hk hh (hv.mono le)) q
end
end Sw

namespace Sw
section
noncomputable def Kx (X : List Addr) (ba : Option Addr) (h h' : Heap) : Prop := ∀ b o, h.get? b = some o → b ∉ X → ba ≠ some b → h'.get? b = some o
theorem Kx.refl (X ba h) : Kx X ba h h := fun _ _ e _ _ => e
theorem Kx.trans {X ba h h' h''} (a : Kx X ba h h') (b : Kx X ba h' h'') : Kx X ba h h'' := fun x o e n m => b x o (a x o e n m) n m
theorem Kp.kx {X ba h h'} (a : Kp ba h h') : Kx X ba h h' := fun b o e _ n => a b o e n
theorem Kx.sub {X Y ba h h'} (a : Kx X ba h h') (k : ∀ x ∈ X, x ∈ Y) : Kx Y ba h h' := fun b o e n m => a b o e (fun z => n (k b z)) m
theorem Kx.fle {X M ba h h'} (a : Kx X ba h h') (k : ∀ x ∈ X, x ∈ M) (hb : ∀ a, ba = some a → a ∈ M) : Fz.le (frz h M) (frz h' M) := fun b o e =>
  let ⟨x, y⟩ := frz_some.mp e; frz_some.mpr ⟨x, a b o y (fun z => x (k b z)) fun z => x (hb b z)⟩
theorem SameBut.kx {X ba a} {h h' : Heap} (s : Heap.SameBut a h h') (ha : a ∈ X) : Kx X ba h h' := fun b o e n _ => (s.2 b fun z => n (z ▸ ha)).trans e

/-- the places that a frame's own stores touch -/
noncomputable def OwnX (σ : Vars) (env : Env) (X : List Addr) : Prop := env.locals ∈ X ∧ ∀ v ∈ σ, v.at_ = .cell → ∀ c, env.cells.lookup (Str.ofString v.name) = some c → c ∈ X
theorem OwnX.put {σ env X} (h : OwnX σ env X) (x : String) (sl : Slot) : OwnX (σ.put x sl) env X := ⟨h.1, fun v hv ha c hc => by
  rcases Vars.mem_put hv with ⟨u, hu, e, rfl⟩ | ⟨hu, _⟩
  · exact h.2 u hu ha c (by rw [e]; exact hc)
  · exact h.2 v hu ha c hc⟩

inductive SetN : Vars → List Expr → List PyData → Vars → Prop
  | nil {σ} : SetN σ [] [] σ
  | cons {σ x l sl pos d es ds σ'} : (⟨x, l, sl⟩ : Var) ∈ σ → l ≠ .free → sl ≠ .glob → SetN (σ.put x (.fz (.d d))) es ds σ' → SetN σ (.Name (Str.ofString x) pos :: es) (d :: ds) σ'
inductive SetT : Vars → Expr → PV → Vars → Prop
  | name {σ x l sl pos p} : (⟨x, l, sl⟩ : Var) ∈ σ → l ≠ .free → sl ≠ .glob → SetT σ (.Name (Str.ofString x) pos) p (σ.put x (.fz p))
  | tuple {σ n pos es ds σ'} : SetN σ es ds σ' → SetT σ (.Tuple es n pos) (.d (.tuple ds)) σ'

theorem SetN.length {σ es ds σ'} (h : SetN σ es ds σ') : es.length = ds.length := by
  induction h with
  | nil => rfl
  | cons _ _ _ _ ih => rw [List.length_cons, List.length_cons, ih]
theorem SetN.each {σ es ds σ'} (h : SetN σ es ds σ') (env : Env) : assignEach es env = es.map fun e => (false, assign e env) := by
  induction h with
  | nil => rfl
  | cons _ _ _ _ ih => rw [List.map_cons, ← ih]; rfl
theorem SetN.own {σ es ds σ'} (h : SetN σ es ds σ') {env X} (o : OwnX σ env X) : OwnX σ' env X := by
  induction h with
  | nil => exact o
  | cons _ _ _ _ ih => exact ih (o.put _ _)
theorem SetT.own {σ e p σ'} (h : SetT σ e p σ') {env X} (o : OwnX σ env X) : OwnX σ' env X := by
  cases h with
  | name => exact o.put _ _
  | tuple h => exact h.own o

theorem Place.mem {σ env X x l sl a} (o : OwnX σ env X) (h : (⟨x, l, sl⟩ : Var) ∈ σ) (hl : l ≠ .free) (p : Place env (Str.ofString x) l a) : a ∈ X := by
  cases l with
  | loc => exact (show a = env.locals from p) ▸ o.1
  | cell => exact o.2 _ h rfl a p
  | free => exact absurd rfl hl

theorem wp_setN {W d A env O M ba β X} : ∀ {es : List Expr} {ds : List PyData} {σ σ' : Vars} (h : SetN σ es ds σ') {s : Shared} (t : St W d A env σ O M ba β s) (o : OwnX σ env X) (hX : ∀ x ∈ X, x ∈ M) {vs : List Value} (hv : VRs (frz s.heap M) vs ds)
    {E : Value → Shared → Prop} {Q : Unit → Shared → Prop} (q : ∀ h' tk, St W d A env σ' O M ba β { s with heap := h', toks := tk } → Kx X ba s.heap h' → Q () { s with heap := h', toks := tk }),
    wpAny W.md A (assignInOrder (es.map fun e => assign e env) vs) Q E s := by
  intro es ds σ σ' h
  induction h with
  | nil => intro s t o hX vs hv E Q q; exact assignInOrder_nil (q s.heap s.toks t (Kx.refl _ _ _))
  | @cons σ x l sl pos d es ds σ' hx hl hg _ ih =>
    intro s t o hX vs hv E Q q
    cases hv with
    | cons hv hvs =>
      rw [List.map_cons]
      refine assignInOrder_cons (wpAny_assign_Name (wp_store t hx hl hg (.d hv) fun h1 tk1 a t1 sb pl => ?_))
      have k1 : Kx X ba s.heap h1 := SameBut.kx sb (Place.mem o hx hl pl)
      refine ih t1 (o.put _ _) hX (hvs.mono (k1.fle hX fun a e => by subst e; exact t.co.ba_mem)) fun h2 tk2 t2 k2 => ?_
      exact q h2 tk2 t2 (k1.trans k2)

theorem wp_assign {W d A env σ O M ba β X} {s : Shared} (t : St W d A env σ O M ba β s) {e : Expr} {p : PV} {σ' : Vars} (h : SetT σ e p σ') (o : OwnX σ env X) (hX : ∀ x ∈ X, x ∈ M) {v : Value} (hv : PR (frz s.heap M) ba v p)
    {E : Value → Shared → Prop} {Q : Unit → Shared → Prop} (q : ∀ h' tk, St W d A env σ' O M ba β { s with heap := h', toks := tk } → Kx X ba s.heap h' → Q () { s with heap := h', toks := tk }) :
    wpAny W.md A (assign e env v) Q E s := by
  cases h with
  | name hx hl hg => exact wpAny_assign_Name (wp_store t hx hl hg hv fun h1 tk1 a t1 sb pl => q h1 tk1 t1 (SameBut.kx sb (Place.mem o hx hl pl)))
  | tuple hn =>
    cases hv with
    | d hv =>
      cases hv with
      | tuple a b c d =>
        have ht := frz_some.mp a
        refine assign_Tuple_tuple t.co.hand ⟨_, ht.2, b, _, c⟩ (by rw [hn.each, List.length_map, hn.length, ← d.length]; simp) (by rw [hn.each]; simp [List.findIdx?_eq_none_iff]) fun h1 he => ?_
        have k : ∀ b o, s.heap.get? b = some o → h1.get? b = some o := fun b o e => he b o (Nat.ne_of_lt (Heap.lt_size e)) e
        have c1 := t.co.step s.toks k
        rw [hn.each, List.map_map]
        have := wp_setN (E := E) hn (t.step c1 (Kp.of_all k)) o hX (d.mono (t.co.fle (Kp.of_all k))) fun h2 tk2 t2 k2 => q h2 tk2 t2 ((Kp.of_all k).kx.trans k2)
        exact this

/-- what a value is walked over by -/
noncomputable def pairIters : List String := ["enumerate", "zip", "dict_itemiterator", "dict_reverseitemiterator", "odict_iterator", "itertools.zip_longest", "itertools.pairwise"]
structure Walk (W : Wd) (A : Around) (f : Fz) (ba : Option Addr) (items : List PV) (I : Addr) (fp : List Addr) (Stt : Nat → Heap → Prop) : Prop where
  ws : Walks W.prog W.w A I fp [I] items.length (fun i u => ∃ q, items[i]? = some q ∧ PR f ba u q) Stt
  ob : ∀ i h, Stt i h → ∃ o n vs, h.get? I = some o ∧ o.cls = .type n ∧ o.data = .fields vs ∧ pairIters.contains n = false
  fpo : ∀ b ∈ fp, b = I ∨ ∃ o, f b = some o
noncomputable def Items (W : Wd) (p : PV) (items : List PV) : Prop :=
  ∀ d A M ba β s v E Q, Co W d A M ba β s → PR (frz s.heap M) ba v p →
    (∀ I fp Stt h' tk, Co W d A M ba β { s with heap := h', toks := tk } → (∀ b o, s.heap.get? b = some o → h'.get? b = some o) → s.heap.get? I = none → (∃ o, h'.get? I = some o) →
      Walk W A (frz s.heap M) ba items I fp Stt → Stt 0 h' → Q (.ref I) { s with heap := h', toks := tk }) → wpAny W.md A (pyIter v) Q E s

theorem Walks.conv {prog w A I fp wr n P P' St} (W : Walks prog w A I fp wr n P St) (k : ∀ i v, i < n → P i v → P' i v) : Walks prog w A I fp wr n P' St where
  sub := W.sub
  frame := W.frame
  item := fun i s Q E hi st hQ => W.item i s Q E hi st fun v h' tk hP => hQ v h' tk (k i v hi hP)
  done := W.done
  self := W.self

theorem Items.list {W : Wd} {ds : List PyData} : Items W (.d (.list ds)) (ds.map .d) := fun d A M ba β s v E Q c hv q => by
  cases hv with
  | d hv =>
    cases hv with
    | @list a o vs n _ ha b cc dd =>
      have ht := frz_some.mp ha
      have hl : s.heap.IsList a vs := ⟨o, ht.2, b, n, cc⟩
      refine wpAny_pyIter_list hl ?_
      obtain ⟨c2, k2, hn, hs, hf⟩ := push_new c { cls := .type "list_iterator", data := .fields #[.ref a, .int 0 0] } rfl s.toks
      have hne : a ≠ s.heap.objs.size := Nat.ne_of_lt (Heap.lt_size ht.2)
      have len : vs.size = (ds.map PV.d).length := by rw [List.length_map, ← dd.length]; simp
      refine q _ [s.heap.objs.size, a] (fun i h => h.IsListIter s.heap.objs.size a i ∧ h.IsList a vs) _ _ c2 (fun b o e => Heap.get?_push_of_some _ e) hn ⟨_, hs⟩ ⟨?_, ?_, ?_⟩ ⟨⟨_, hs, rfl, rfl⟩, hl.push _⟩
      · rw [← len]
        refine Walks.conv (Walks.list c.hand s.heap.objs.size a hne vs) fun i u hi e => ?_
        have e' : vs.toList[i]? = some u := by simpa using e
        obtain ⟨d, e1, r⟩ := dd.get' e'
        exact ⟨.d d, by simp [e1], .d r⟩
      · rintro i h ⟨⟨o', e, c', d'⟩, _⟩
        exact ⟨o', _, _, e, c', d', by decide⟩
      · intro b hb
        rcases List.mem_cons.mp hb with rfl | hb
        · exact .inl rfl
        · rw [List.mem_singleton.mp hb]; exact .inr ⟨_, ha⟩

noncomputable def rngItems (a c : Int) (n : Nat) : List PV := (List.range n).map fun (i : Nat) => .d (.int (a + (i : Int) * c))
theorem Items.rng {W : Wd} {a b c : Int} {n : Nat} (hsm : Builtin.Range.small a b c = true) (hn : Builtin.Range.rangeSize a b c = (n : Int)) : Items W (.rng a b c) (rngItems a c n) := fun d A M ba β s v E Q co hv q => by
  cases hv with
  | @rng r _ _ _ t u v ha =>
    have ht := (frz_some.mp ha).2
    refine wpAny_pyIter_range ht hsm ?_
    rw [hn]
    obtain ⟨c2, k2, hnn, hs, hf⟩ := push_new co { cls := .type "range_iterator", data := .fields #[rawInt a, rawInt (n : Int), rawInt c] } rfl s.toks
    refine q _ [s.heap.objs.size] (fun i h => IsRangeIter h s.heap.objs.size (a + (i : Nat) * c) ((n : Int) - (i : Nat)) c) _ _ c2 (fun b o e => Heap.get?_push_of_some _ e) hnn ⟨_, hs⟩ ⟨?_, ?_, ?_⟩ (by show IsRangeIter _ _ _ _ _; simpa using hs)
    · have len : (rngItems a c n).length = n := by simp [rngItems]
      rw [len]
      refine Walks.conv (Walks.range co.hand s.heap.objs.size a c n).bound fun i u hi e => ?_
      obtain ⟨hi, t, rfl⟩ := e
      exact ⟨.d (.int (a + (i : Int) * c)), by simp [rngItems, hi], .d (.int _ _)⟩
    · intro i h e
      exact ⟨_, _, _, e, rfl, rfl, by decide⟩
    · intro b hb
      exact .inl (List.mem_singleton.mp hb)

inductive Tests (W : Wd) (d : Nat) : Vars → Bk → List Expr → Bool → Bk → Prop
  | nil {σ β} : Tests W d σ β [] true β
  | one {σ β c b β'} : Et W d σ β c b β' → Tests W d σ β [c] b β'
noncomputable abbrev testTree (ifs : List Expr) (env : Env) : Sem Bool := forIn ifs true fun c r => if r = true then do let ok ← isTrue c env (eval c env); pure (ForInStep.yield ok) else pure (ForInStep.yield r)
theorem wp_tests {W d A env σ O M ba β ifs b β'} {s : Shared} (t : St W d A env σ O M ba β s) (h : Tests W d σ β ifs b β') {E : Value → Shared → Prop} {Q : Bool → Shared → Prop}
    (q : ∀ h' tk, St W d A env σ O M ba β' { s with heap := h', toks := tk } → Kp ba s.heap h' → Q b { s with heap := h', toks := tk }) : wpAny W.md A (testTree ifs env) Q E s := by
  cases h with
  | nil => exact wpAny_tests_nil (q s.heap s.toks t (Kp.refl _ _))
  | one h => exact wpAny_tests_one (h.run A env O M ba s E _ t fun h1 tk1 c1 k1 => q h1 tk1 (t.step c1 k1) k1)

noncomputable abbrev lobj (vs : Array Value) (k : Nat) : Obj := { cls := .type "list", data := .seq vs k }

/-- what a comprehension's turn lays onto its list -/
noncomputable def BodyOk (W : Wd) (d : Nat) (σ : Vars) (β : Bk) (body : Env → Value → Sem Unit) (out : List PyData) (β' : Bk) : Prop :=
  ∀ A env M ba s D X ys n E Q, St W d A env σ [] M ba β s → OwnX σ env X → D ∈ M → D ∉ X → (∀ x ∈ X, x ∈ M) → s.heap.get? D = some (lobj ys n) → ys.size + out.length ≤ 2 ^ 20 →
    (∀ h' tk ys' n', St W d A env σ [] M ba β' { s with heap := h', toks := tk } → Kx (D :: X) ba s.heap h' → h'.get? D = some (lobj (ys ++ ys') n') → VRs (frz h' M) ys'.toList out → Q () { s with heap := h', toks := tk }) →
    wpAny W.md A (body env (.ref D)) Q E s

inductive RunsS (W : Wd) (d : Nat) (σ : Vars) (target : Expr) (ifs : List Expr) (body : Env → Value → Sem Unit) : Bk → List PV → List PyData → Bk → Prop
  | nil {β} : RunsS W d σ target ifs body β [] [] β
  | cons {β p ps σ1 b β1 out1 β2 out2 β'} : SetT σ target p σ1 → Tests W d σ1 β ifs b β1 → (b = true → BodyOk W d σ1 β1 body out1 β2) → (b = false → out1 = [] ∧ β2 = β1) →
      RunsS W d σ target ifs body β2 ps out2 β' → RunsS W d σ target ifs body β (p :: ps) (out1 ++ out2) β'

noncomputable def turnTree (e : Expr) (k : Nat) (target : Expr) (ifs : List Expr) (body : Env → Value → Sem Unit) (p : Pos) (it acc : Value) (env : Env) : Sem Fin := do
  standAt p
  match ← pyNext it with
  | none => pure (.done .next)
  | some v =>
    letOwnedTupleGo target it v
    assign target env v
    let mut ok := true
    for c in ifs do
      if ok then ok ← isTrue c env (eval c env)
    if ok then body env acc
    again (.compLoop e k it acc env)

/-- facts set before a turn may be forgotten behind it -/
noncomputable def Forgets (σ1 σ : Vars) : Prop := ∀ v ∈ σ, v ∈ σ1 ∨ (v.slot = .unb ∧ ∃ u ∈ σ1, u.name = v.name ∧ u.at_ = v.at_ ∧ u.slot ≠ .glob)
theorem St.forget {W d A env σ1 σ O M ba β} {s : Shared} (t : St W d A env σ1 O M ba β s) (h : Forgets σ1 σ) : St W d A env σ O M ba β s :=
  ⟨t.co, t.kind, t.glob, t.blt, t.apart, t.lm, t.ns, t.cm, t.cc, t.cinj, fun v hv => by
    rcases h v hv with x | ⟨_, u, hu, e, _⟩
    · exact t.names _ x
    · rw [← e]; exact t.names _ hu, fun v hv => by
    rcases h v hv with x | ⟨e0, u, hu, e, e', e''⟩
    · exact t.vars _ x
    · obtain ⟨vn, vl, vs⟩ := v
      obtain ⟨un, ul, us⟩ := u
      cases e; cases e'; cases e0
      exact .unb ((t.vars _ hu).kind e'')⟩

/-- a loop's names: all that its turns set is unbound at its head -/
noncomputable def Free (σ : Vars) : Expr → Prop
  | .Name x _ => ∀ v ∈ σ, Str.ofString v.name = x → v.slot = .unb
  | .Tuple es _ _ => ∀ e ∈ es, ∀ x p, e = .Name x p → ∀ v ∈ σ, Str.ofString v.name = x → v.slot = .unb
  | _ => True
theorem put_forget {σ τ : Vars} {x : String} {p : PV} (hf : ∀ v ∈ σ, v.name = x → v.slot = .unb) (h : Forgets τ σ) (hn : ∀ v ∈ τ, v.name = x → v.slot ≠ .glob) : Forgets (τ.put x (.fz p)) σ := fun v hv => by
  have key : ∀ u ∈ τ, u.name ≠ x → u ∈ τ.put x (.fz p) := fun u hu hne => List.mem_map.mpr ⟨u, hu, by rw [if_neg (by simpa using hne)]⟩
  have key2 : ∀ u ∈ τ, u.name = x → (⟨x, u.at_, .fz p⟩ : Var) ∈ τ.put x (.fz p) := fun u hu he => List.mem_map.mpr ⟨u, hu, by rw [if_pos (by simpa using he)]⟩
  rcases h v hv with hu | ⟨e0, u, hu, e1, e2, e3⟩
  · by_cases he : v.name = x
    · exact .inr ⟨hf v hv he, _, key2 v hu he, he.symm, rfl, by simp⟩
    · exact .inl (key v hu he)
  · by_cases he : u.name = x
    · exact .inr ⟨e0, _, key2 u hu he, by rw [← e1, he], e2, by simp⟩
    · exact .inr ⟨e0, u, key u hu he, e1, e2, e3⟩
theorem Forgets.refl (σ : Vars) : Forgets σ σ := fun v hv => .inl hv
end
end Sw

namespace Sw
section
theorem glob_put {τ σ : Vars} {x : String} {p : PV} (h : ∀ v ∈ τ, v.slot = .glob → v ∈ σ) : ∀ v ∈ τ.put x (.fz p), v.slot = .glob → v ∈ σ := fun v hv e => by
  rcases Vars.mem_put hv with ⟨u, hu, _, rfl⟩ | ⟨hu, _⟩
  · cases e
  · exact h v hu e
theorem SetN.forget {σ : Vars} : ∀ {es : List Expr} {ds : List PyData} {τ τ' : Vars} (_ : SetN τ es ds τ') (_ : Forgets τ σ) (_ : ∀ v ∈ τ, v.slot = .glob → v ∈ σ)
    (_ : ∀ e ∈ es, ∀ x p, e = .Name x p → ∀ v ∈ σ, Str.ofString v.name = x → v.slot = .unb), Forgets τ' σ := by
  intro es ds τ τ' h
  induction h with
  | nil => intro h _ _; exact h
  | @cons τ x l sl pos d es ds τ' hx hl hg _ ih =>
    intro hf hgl hfree
    have f0 : ∀ v ∈ σ, v.name = x → v.slot = .unb := fun v hv e => hfree _ (List.mem_cons_self) _ _ rfl v hv (by rw [e])
    refine ih (put_forget f0 hf fun v hv e hgv => ?_) (glob_put hgl) fun e he => hfree e (List.mem_cons_of_mem _ he)
    have := f0 v (hgl v hv hgv) e
    rw [hgv] at this; cases this
theorem SetT.forget {σ σ1 : Vars} {e : Expr} {p : PV} (h : SetT σ e p σ1) (hf : Free σ e) : Forgets σ1 σ := by
  cases h with
  | @name x l sl pos p hx hl hg =>
    have f0 : ∀ v ∈ σ, v.name = x → v.slot = .unb := fun v hv e => hf v hv (by rw [e])
    exact put_forget f0 (.refl σ) fun v hv e hgv => by have := f0 v hv e; rw [hgv] at this; cases this
  | tuple hn => exact hn.forget (.refl σ) (fun _ h _ => h) hf

theorem letOwned {W : Wd} {A : Around} {E : Value → Shared → Prop} {s : Shared} {target : Expr} {I : Addr} {v : Value} {o : Obj} {n : String} {vs : Array Value} (ho : s.heap.get? I = some o) (hc : o.cls = .type n) (hd : o.data = .fields vs) (hp : pairIters.contains n = false)
    {Q : Unit → Shared → Prop} (q : Q () s) : wpAny W.md A (letOwnedTupleGo target (.ref I) v) Q E s := by
  have two : wpAny W.md A (do
      let (.ref r, .ref a) := (Value.ref I, v) | return
      let o ← load r
      match o.cls, o.data with
      | .type n, .fields vs =>
        if pairIters.contains n && vs[0]? == some (rawInt a) then
          rule "for.unpacks-the-owned-tuple"
          updateField r 0 .none
      | _, _ => pure ()) Q E s := by
    cases v with
    | ref a =>
      refine wpAny_bind (wpAny_load ho ?_)
      rw [hc, hd]
      show wpAny _ A (if (pairIters.contains n && vs[0]? == some (rawInt a)) = true then _ else _) Q E s
      rw [hp, Bool.false_and, if_neg Bool.false_ne_true]
      exact wpAny_pure q
    | _ => exact wpAny_pure q
  unfold letOwnedTupleGo
  cases target with
  | Tuple => exact two
  | List => exact two
  | _ => exact wpAny_pure q

theorem St.but {W d A env σ O M ba β} {s : Shared} (t : St W d A env σ O M ba β s) {I : Addr} (hI : I ∈ M) {o : Obj} {vs : Array Value} (ho : s.heap.get? I = some o) (hd : o.data = .fields vs) {h' : Heap} (tk : Nat)
    (k : ∀ b o, b ∉ [I] → s.heap.get? b = some o → h'.get? b = some o) (hl : ∃ o, h'.get? I = some o) : St W d A env σ O M ba β { s with heap := h', toks := tk } := by
  have k' : ∀ b o, b ≠ I → s.heap.get? b = some o → h'.get? b = some o := fun b o n e => k b o (by simpa using n) e
  have hbI : ba ≠ some I := by
    rintro rfl
    obtain ⟨_, g, m, _⟩ := t.co.book
    obtain ⟨o', es, ep, e', _, d', _⟩ := m
    rw [ho] at e'; cases e'; rw [hd] at d'; cases d'
  have nsI : ∀ {a m}, s.heap.Ns a m → a ≠ I := fun {a m} n z => by
    obtain ⟨o', es, ep, e, d, _⟩ := n; subst z; rw [ho] at e; cases e; rw [hd] at d; cases d
  have cellI : ∀ {a w}, s.heap.IsCell a w → a ≠ I := fun {a w} n z => by
    obtain ⟨o', e, d⟩ := n; subst z; rw [ho] at e; cases e; rw [hd] at d; cases d
  have listI : ∀ {a vs' k}, s.heap.get? a = some (lobj vs' k) → a ≠ I := fun {a vs' k} e z => by subst z; rw [ho] at e; cases e; cases hd
  have c' : Co W d A M ba β { s with heap := h', toks := tk } := ⟨t.co.hand, t.co.room, t.co.units, fun b o e => ⟨k' b o (fun z => (t.co.base b o e).2 (z ▸ hI)) (t.co.base b o e).1, (t.co.base b o e).2⟩,
    fun m hm => by
      by_cases z : m = I
      · subst z; exact hl
      · obtain ⟨o, e⟩ := t.co.live m hm; exact ⟨o, k' m o z e⟩,
    t.co.book.at fun b e o e' => k' b o (fun z => hbI (z ▸ e)) e'⟩
  have le : Fz.le (frz s.heap M) (frz h' M) := fun b o e => let ⟨x, y⟩ := frz_some.mp e; frz_some.mpr ⟨x, k' b o (fun z => x (z ▸ hI)) y⟩
  have ns' : ∀ {a m}, s.heap.Ns a m → h'.Ns a m := fun {a m} n => n.at' fun o e => k' a o (nsI n) e
  have cell' : ∀ {a w}, s.heap.IsCell a w → h'.IsCell a w := fun {a w} y => let ⟨o, p, q⟩ := y; ⟨o, k' a o (cellI y) p, q⟩
  refine ⟨c', t.kind, t.glob, t.blt, t.apart, t.lm, let ⟨m, n⟩ := t.ns; ⟨m, ns' n⟩, t.cm, fun x c hc => let ⟨v, y⟩ := t.cc x c hc; ⟨v, cell' y⟩, t.cinj, t.names, fun ⟨vn, vl, vs⟩ hv => ?_⟩
  have y : SlotOk env s.heap M ba O vn vl vs := t.vars _ hv
  show SlotOk env h' M ba O vn vl vs
  have has : ∀ {v}, Has env s.heap (Str.ofString vn) v vl → Has env h' (Str.ofString vn) v vl := fun {v} z => by
    cases vl with
    | loc => obtain ⟨m2, n2, e2⟩ := z; exact ⟨m2, ns' n2, e2⟩
    | cell => obtain ⟨c2, e, z⟩ := z; exact ⟨c2, e, cell' z⟩
    | free => obtain ⟨c2, e, z⟩ := z; exact ⟨c2, e, cell' z⟩
  cases y with
  | unb a => exact .unb a
  | fz a b c => exact .fz a (has b) (c.mono le)
  | own a b c d e f => exact .own a (has b) c d (k' _ _ (listI e) e) (f.mono le)
  | glob a => exact .glob a

theorem St.butOff {W d A env σ N ba β} {s : Shared} {I : Addr} (t : St W d A env σ [] (I :: N) ba β s) (hI : I ∉ N) {o : Obj} {vs : Array Value} (ho : s.heap.get? I = some o) (hd : o.data = .fields vs) {h' : Heap} (tk : Nat)
    (k : ∀ b o, b ∉ [I] → s.heap.get? b = some o → h'.get? b = some o) : St W d A env σ [] N ba β { s with heap := h', toks := tk } := by
  have k' : ∀ b o, b ≠ I → s.heap.get? b = some o → h'.get? b = some o := fun b o n e => k b o (by simpa using n) e
  have hbI : ba ≠ some I := by
    rintro rfl
    obtain ⟨_, g, m, _⟩ := t.co.book
    obtain ⟨o', es, ep, e', _, d', _⟩ := m
    rw [ho] at e'; cases e'; rw [hd] at d'; cases d'
  have nsI : ∀ {a m}, s.heap.Ns a m → a ≠ I := fun {a m} n z => by
    obtain ⟨o', es, ep, e, d, _⟩ := n; subst z; rw [ho] at e; cases e; rw [hd] at d; cases d
  have cellI : ∀ {a w}, s.heap.IsCell a w → a ≠ I := fun {a w} n z => by
    obtain ⟨o', e, d⟩ := n; subst z; rw [ho] at e; cases e; rw [hd] at d; cases d
  have le : Fz.le (frz s.heap (I :: N)) (frz h' N) := fun b o e => let ⟨x, y⟩ := frz_some.mp e; frz_some.mpr ⟨fun z => x (List.mem_cons_of_mem _ z), k' b o (fun z => x (z ▸ List.mem_cons_self)) y⟩
  have ns' : ∀ {a m}, s.heap.Ns a m → h'.Ns a m := fun {a m} n => n.at' fun o e => k' a o (nsI n) e
  have cell' : ∀ {a w}, s.heap.IsCell a w → h'.IsCell a w := fun {a w} y => let ⟨o, p, q⟩ := y; ⟨o, k' a o (cellI y) p, q⟩
  have off : ∀ {b}, b ∈ I :: N → b ≠ I → b ∈ N := fun {b} h n => (List.mem_cons.mp h).resolve_left n
  have c' : Co W d A N ba β { s with heap := h', toks := tk } := ⟨t.co.hand, t.co.room, t.co.units, fun b o e => ⟨k' b o (fun z => (t.co.base b o e).2 (z ▸ List.mem_cons_self)) (t.co.base b o e).1, fun z => (t.co.base b o e).2 (List.mem_cons_of_mem _ z)⟩,
    fun m hm => by obtain ⟨o, e⟩ := t.co.live m (List.mem_cons_of_mem _ hm); exact ⟨o, k' m o (fun z => hI (z ▸ hm)) e⟩,
    by
      have b := t.co.book
      cases ba with
      | none => trivial
      | some a =>
        obtain ⟨hm, g, ⟨o, es, ep, ho', r⟩, q⟩ := b
        have hne : a ≠ I := fun z => hbI (by rw [z])
        exact ⟨off hm hne, g, ⟨o, es, ep, k' a o hne ho', r⟩, q⟩⟩
  refine ⟨c', t.kind, t.glob, t.blt, t.apart, off t.lm (let ⟨m, n⟩ := t.ns; nsI n), let ⟨m, n⟩ := t.ns; ⟨m, ns' n⟩, fun x c hc => off (t.cm x c hc) (let ⟨v, y⟩ := t.cc x c hc; cellI y), fun x c hc => let ⟨v, y⟩ := t.cc x c hc; ⟨v, cell' y⟩, t.cinj, t.names, fun ⟨vn, vl, vs⟩ hv => ?_⟩
  have y : SlotOk env s.heap (I :: N) ba [] vn vl vs := t.vars _ hv
  show SlotOk env h' N ba [] vn vl vs
  have has : ∀ {v}, Has env s.heap (Str.ofString vn) v vl → Has env h' (Str.ofString vn) v vl := fun {v} z => by
    cases vl with
    | loc => obtain ⟨m2, n2, e2⟩ := z; exact ⟨m2, ns' n2, e2⟩
    | cell => obtain ⟨c2, e, z⟩ := z; exact ⟨c2, e, cell' z⟩
    | free => obtain ⟨c2, e, z⟩ := z; exact ⟨c2, e, cell' z⟩
  cases y with
  | unb a => exact .unb a
  | fz a b c => exact .fz a (has b) (c.mono le)
  | own a b c d e f => cases c
  | glob a => exact .glob a

/-- the walked items of a loop, from place i on; what the loop needs of its iterator -/
structure Going (W : Wd) (A : Around) (f : Fz) (ba : Option Addr) (all : List PV) (I : Addr) (fp : List Addr) (Stt : Nat → Heap → Prop) (X M : List Addr) (i : Nat) (h : Heap) : Prop where
  wk : Walk W A f ba all I fp Stt
  st : Stt i h
  fle : Fz.le f (frz h M)
  im : I ∈ M
  ix : I ∉ X
theorem Going.frame {W A f ba all I fp Stt X M i h h'} (g : Going W A f ba all I fp Stt X M i h) (k : Kx X ba h h') (hX : ∀ x ∈ X, x ∈ M) (hb : ∀ a, ba = some a → a ∈ M) (hbI : ba ≠ some I) : Going W A f ba all I fp Stt X M i h' := by
  refine ⟨g.wk, g.wk.ws.frame _ _ _ g.st fun b hb' o e => ?_, g.fle.trans (k.fle hX hb), g.im, g.ix⟩
  rcases g.wk.fpo b hb' with rfl | ⟨o', e'⟩
  · exact k b o e g.ix hbI
  · have := frz_some.mp (g.fle b o' e')
    exact k b o e (fun z => this.1 (hX b z)) fun z => this.1 (hb b z)

section
variable {W : Wd} {d : Nat} {σ : Vars} {elt : Expr} {gens : List Comprehension} {scope : Scope} {pos : Pos} {k : Nat} {target : Expr} {ifs : List Expr} {body : Env → Value → Sem Unit} {p : Pos}

theorem loop_run (heq : ∀ it acc env, compTurn (.ListComp elt gens scope pos) k it acc env = turnTree (.ListComp elt gens scope pos) k target ifs body p it acc env) (hfr : Free σ target)
    {all : List PV} {A : Around} {env : Env} {I D : Addr} {X N : List Addr} {ba : Option Addr} {f : Fz} {fp : List Addr} {Stt : Nat → Heap → Prop} {R : Result → Shared → Prop} (hXN : ∀ x ∈ X, x ∈ N) (hDN : D ∈ N) (hDX : D ∉ X) (ow : OwnX σ env X) (hIN : I ∉ N) {β' : Bk} :
    ∀ {items : List PV} {β : Bk} {out : List PyData}, RunsS W d σ target ifs body β items out β' → ∀ (i : Nat) (s : Shared) (ys : Array Value) (n : Nat), items = all.drop i → i ≤ all.length → St W d A env σ [] (I :: N) ba β s → Going W A f ba all I fp Stt (D :: X) (I :: N) i s.heap →
      s.heap.get? D = some (lobj ys n) → ys.size + out.length ≤ 2 ^ 20 →
      (∀ h' tk ys' n', St W d A env σ [] N ba β' { s with heap := h', toks := tk } → Kx (I :: D :: X) ba s.heap h' → h'.get? D = some (lobj (ys ++ ys') n') → VRs (frz h' N) ys'.toList out → R (.ok .next) { s with heap := h', toks := tk }) →
      codeAny W.md A (.compLoop (.ListComp elt gens scope pos) k (.ref I) (.ref D) env) R s := by
  have hID : I ≠ D := fun z => hIN (z ▸ hDN)
  have hX : ∀ x ∈ X, x ∈ I :: N := fun x hx => List.mem_cons_of_mem _ (hXN x hx)
  have hDM : D ∈ I :: N := List.mem_cons_of_mem _ hDN
  have hX' : ∀ x ∈ I :: D :: X, I ∈ I :: N → x ∈ I :: N := fun x hx hI => by
    rcases List.mem_cons.mp hx with rfl | hx
    · exact hI
    · rcases List.mem_cons.mp hx with rfl | hx
      · exact hDM
      · exact hX x hx
  intro items β out r
  induction r with
  | @nil β =>
    intro i s ys n hit hi t g hDs hsz fin
    have hi' : i = all.length := by
      have := congrArg List.length hit
      simp at this; omega
    subst hi'
    refine codeAny_of_tree ?_
    show wpAny _ A ((compTurn (.ListComp elt gens scope pos) k (.ref I) (.ref D) env).onRaise (fun x => do noteFrame x env; theTreesLotGoes x)) _ _ s
    refine wpAny_noted ?_
    rw [heq]
    refine wpAny_bind (wpAny_standAt (wpAny_bind ?_))
    refine g.wk.ws.done s _ _ g.st fun h1 tk1 hk1 => wpAny_pure ?_
    obtain ⟨o, nn, vs, ho, hc, hd, hp⟩ := g.wk.ob _ _ g.st
    have kx : Kx (I :: D :: X) ba s.heap h1 := fun b o e hb _ => hk1 b o (fun z => hb (by rw [List.mem_singleton.mp z]; exact List.mem_cons_self)) e
    refine fin h1 tk1 #[] n (t.butOff hIN ho hd tk1 hk1) kx ?_ (by simpa using VRs.nil)
    simpa using hk1 D _ (fun z => hID (List.mem_singleton.mp z).symm) hDs
  | @cons β pv ps σ1 b β1 out1 β2 out2 β' hset htest hbody hskip _ ih =>
    intro i s ys n hit hi t g hDs hsz fin
    have hlt : i < all.length := by
      have := congrArg List.length hit
      simp at this; omega
    have hpv : all[i]? = some pv := by
      have := congrArg (fun l => l[0]?) hit
      simpa using this.symm
    have hps : ps = all.drop (i + 1) := by
      have := congrArg List.tail hit
      simpa using this
    refine codeAny_of_tree ?_
    show wpAny _ A ((compTurn (.ListComp elt gens scope pos) k (.ref I) (.ref D) env).onRaise (fun x => do noteFrame x env; theTreesLotGoes x)) _ _ s
    refine wpAny_noted ?_
    rw [heq]
    refine wpAny_bind (wpAny_standAt (wpAny_bind ?_))
    refine g.wk.ws.item i s _ _ hlt g.st fun v h1 tk1 hP st1 hk1 => ?_
    obtain ⟨q, hq, hv⟩ := hP
    rw [hpv] at hq; cases hq
    obtain ⟨o, nn, vs, ho, hc, hd, hp⟩ := g.wk.ob _ _ g.st
    obtain ⟨o1, n1, vs1, ho1, hc1, hd1, hp1⟩ := g.wk.ob _ _ st1
    have t1 := t.but g.im ho hd tk1 hk1 ⟨o1, ho1⟩
    have le1 : Fz.le (frz s.heap (I :: N)) (frz h1 (I :: N)) := fun b o e => let ⟨x, y⟩ := frz_some.mp e; frz_some.mpr ⟨x, hk1 b o (fun z => x (by rw [List.mem_singleton.mp z]; exact g.im)) y⟩
    have g1 : Going W A f ba all I fp Stt (D :: X) (I :: N) (i + 1) h1 := ⟨g.wk, st1, g.fle.trans le1, g.im, g.ix⟩
    have hD1 : h1.get? D = some (lobj ys n) := hk1 D _ (fun z => hID (List.mem_singleton.mp z).symm) hDs
    have kx1 : Kx (I :: D :: X) ba s.heap h1 := fun b o e hb _ => hk1 b o (fun z => hb (by rw [List.mem_singleton.mp z]; exact List.mem_cons_self)) e
    refine wpAny_bind (letOwned ho1 hc1 hd1 hp1 ?_)
    refine wpAny_bind (wp_assign t1 hset ow hX (hv.mono g1.fle) fun h2 tk2 t2 k2 => ?_)
    have hD2 : h2.get? D = some (lobj ys n) := k2 D _ hD1 hDX (t1.co.book.not_list hD1)
    refine wpAny_bind (wp_tests t2 htest fun h3 tk3 t3 k3 => ?_)
    have hD3 : h3.get? D = some (lobj ys n) := k3 D _ hD2 (t2.co.book.not_list hD2)
    have bam : ∀ a, ba = some a → a ∈ I :: N := fun a e => by subst e; exact t.co.ba_mem
    have hIb : ba ≠ some I := by
      rintro rfl
      obtain ⟨_, g', m, _⟩ := t1.co.book
      obtain ⟨o', es, ep, e', _, d', _⟩ := m
      rw [show h1.get? I = some o1 from ho1] at e'; cases e'; rw [hd1] at d'; cases d'
    have next : ∀ (h4 : Heap) (tk4 : Nat) (ys1 : Array Value) (n4 : Nat), St W d A env σ1 [] (I :: N) ba β2 { s with heap := h4, toks := tk4 } → Kx (D :: X) ba h1 h4 → h4.get? D = some (lobj (ys ++ ys1) n4) → VRs (frz h4 (I :: N)) ys1.toList out1 →
        codeAny W.md A (.compLoop (.ListComp elt gens scope pos) k (.ref I) (.ref D) env) R { s with heap := h4, toks := tk4 } := fun h4 tk4 ys1 n4 t4 k4 hD4 r4 => by
      have hlen : ys1.size = out1.length := by rw [← r4.length]; simp
      refine ih (i + 1) _ (ys ++ ys1) n4 hps hlt (t4.forget (hset.forget hfr)) (g1.frame k4 (fun x hx => hX' x (List.mem_cons_of_mem _ hx) g.im) bam hIb) hD4 ?_ fun h5 tk5 ys2 n5 t5 k5 hD5 r5 => ?_
      · rw [List.length_append] at hsz; rw [Array.size_append, hlen]; omega
      · refine fin h5 tk5 (ys1 ++ ys2) n5 t5 ((kx1.trans (k4.sub fun x hx => List.mem_cons_of_mem _ hx)).trans k5) (by rw [← Array.append_assoc]; exact hD5) ?_
        rw [Array.toList_append]
        exact VRs.append r5 ((r4.mono (k5.fle (fun x hx => hX' x hx g.im) bam)).mono frz_cons)
    cases b with
    | false =>
      obtain ⟨rfl, rfl⟩ := hskip rfl
      refine wpAny_pure ?_
      exact ⟨rfl, next h3 tk3 #[] n t3 ((k2.sub fun x hx => List.mem_cons_of_mem _ hx).trans k3.kx) (by simpa using hD3) (by simpa using VRs.nil)⟩
    | true =>
      refine wpAny_bind (hbody rfl A env (I :: N) ba _ D X ys n _ _ t3 (hset.own ow) hDM hDX hX hD3 (by rw [List.length_append] at hsz; omega) fun h4 tk4 ys1 n4 t4 k4 hD4 r4 => wpAny_pure ⟨rfl, ?_⟩)
      exact next h4 tk4 ys1 n4 t4 (((k2.sub fun x hx => List.mem_cons_of_mem _ hx).trans k3.kx).trans k4) hD4 r4
end
end
end Sw

namespace Sw
section
theorem St.butD {W d A env σ M ba β} {s : Shared} (t : St W d A env σ [] M ba β s) {D : Addr} (hI : D ∈ M) {ys : Array Value} {n : Nat} (ho : s.heap.get? D = some (lobj ys n)) {h' : Heap} (tk : Nat)
    (hs : Heap.SameBut D s.heap h') (hl : ∃ o, h'.get? D = some o) : St W d A env σ [] M ba β { s with heap := h', toks := tk } := by
  have hbI : ba ≠ some D := t.co.book.not_list ho
  have nsI : ∀ {a m}, s.heap.Ns a m → a ≠ D := fun {a m} n z => ns_not_list n (z ▸ ho)
  have cellI : ∀ {a w}, s.heap.IsCell a w → a ≠ D := fun {a w} n z => cell_not_list n (z ▸ ho)
  obtain ⟨c', le⟩ := t.co.but hI hbI hs hl tk
  have ns' : ∀ {a m}, s.heap.Ns a m → h'.Ns a m := fun {a m} n => n.sameBut hs (nsI n)
  have cell' : ∀ {a w}, s.heap.IsCell a w → h'.IsCell a w := fun {a w} y => y.sameBut hs (cellI y)
  refine ⟨c', t.kind, t.glob, t.blt, t.apart, t.lm, let ⟨m, n⟩ := t.ns; ⟨m, ns' n⟩, t.cm, fun x c hc => let ⟨v, y⟩ := t.cc x c hc; ⟨v, cell' y⟩, t.cinj, t.names, fun ⟨vn, vl, vs⟩ hv => ?_⟩
  have y : SlotOk env s.heap M ba [] vn vl vs := t.vars _ hv
  show SlotOk env h' M ba [] vn vl vs
  have has : ∀ {v}, Has env s.heap (Str.ofString vn) v vl → Has env h' (Str.ofString vn) v vl := fun {v} z => by
    cases vl with
    | loc => obtain ⟨m2, n2, e2⟩ := z; exact ⟨m2, ns' n2, e2⟩
    | cell => obtain ⟨c2, e, z⟩ := z; exact ⟨c2, e, cell' z⟩
    | free => obtain ⟨c2, e, z⟩ := z; exact ⟨c2, e, cell' z⟩
  cases y with
  | unb a => exact .unb a
  | fz a b c => exact .fz a (has b) (c.mono le)
  | own a b c d e f => cases c
  | glob a => exact .glob a

noncomputable def emitB (elt : Expr) (env : Env) (acc : Value) : Sem Unit := do let _ ← call (.builtin "list.append") [acc, ← eval elt env]
theorem BodyOk.elt {W d σ β elt q β'} (x : Ev W d σ β elt (.dat q) β') : BodyOk W d σ β (emitB elt) [q] β' := fun A env M ba s D X ys n E Q t ow hD hDX hX hDs hsz qq => by
  refine wpAny_bind (x.run A env [] M ba s E _ t fun v h1 tk1 c1 k1 r1 => ?_)
  have hD1 : h1.get? D = some (lobj ys n) := k1 D _ hDs (t.co.book.not_list hDs)
  have t1 := t.step c1 k1
  refine wpAny_bind (append_at (hsz := by rw [sizeLine_eq]; simp at hsz; omega) hD1 fun h2 hs2 hD2 => wpAny_pure ?_)
  have t2 := t1.butD hD hD1 tk1 hs2 ⟨_, hD2⟩
  cases r1 with
  | val r1 =>
    refine qq h2 tk1 #[v] (n + 1) t2 (k1.kx.trans (SameBut.kx hs2 List.mem_cons_self)) (by simpa [lobj] using hD2) ?_
    exact VRs.one (r1.out.mono (t1.co.but hD (t1.co.book.not_list hD1) hs2 ⟨_, hD2⟩ tk1).2)

/-- hide what is new -/
theorem Co.hide {W d A M N ba β β'} {s : Shared} (c0 : Co W d A M ba β s) {h' : Heap} {tk : Nat} (c : Co W d A M ba β' { s with heap := h', toks := tk }) (hn : ∀ n ∈ N, s.heap.get? n = none) (hl : ∀ n ∈ N, ∃ o, h'.get? n = some o) :
    Co W d A (N ++ M) ba β' { s with heap := h', toks := tk } :=
  ⟨c.hand, c.room, c.units, fun b o e => ⟨(c.base b o e).1, fun z => (List.mem_append.mp z).elim (fun z => by have := (c0.base b o e).1; rw [hn b z] at this; cases this) (c.base b o e).2⟩,
    fun m hm => (List.mem_append.mp hm).elim (hl m) (c.live m), by
      have b := c.book
      cases ba with
      | none => trivial
      | some a => exact ⟨List.mem_append_right _ b.1, b.2⟩⟩
theorem St.hide {W d A env σ O M N ba β β'} {s : Shared} (t : St W d A env σ O M ba β s) {h' : Heap} {tk : Nat} (c : Co W d A M ba β' { s with heap := h', toks := tk }) (k : Kp ba s.heap h') (hn : ∀ n ∈ N, s.heap.get? n = none) (hl : ∀ n ∈ N, ∃ o, h'.get? n = some o) :
    St W d A env σ O (N ++ M) ba β' { s with heap := h', toks := tk } := by
  have bk := t.co.book
  have le := frz_hide (N := N) k (fun a e => by subst e; exact t.co.ba_mem) hn
  refine ⟨t.co.hide c hn hl, t.kind, t.glob, t.blt, t.apart, List.mem_append_right _ t.lm, let ⟨m, o, es, ep, e, r⟩ := t.ns; ⟨m, o, es, ep, k _ _ e t.apart, r⟩, fun x c hc => List.mem_append_right _ (t.cm x c hc),
    fun x c hc => let ⟨v, y⟩ := t.cc x c hc; ⟨v, let ⟨o, p, q⟩ := y; ⟨o, k _ _ p (bk.not_cell y), q⟩⟩, t.cinj, t.names, fun ⟨nm, l, sl⟩ hx => ?_⟩
  have y : SlotOk env s.heap M ba O nm l sl := t.vars _ hx
  show SlotOk env h' (N ++ M) ba O nm l sl
  cases y with
  | unb a => exact .unb a
  | fz a b c => exact .fz a (b.kp bk t.apart k) (c.mono le)
  | own a b c d e f => exact .own a (b.kp bk t.apart k) c (List.mem_append_right _ d) (k _ _ e (bk.not_list e)) (f.mono le)
  | glob a => exact .glob a

theorem start_any {W : Wd} {A : Around} {s : Shared} {R : Result → Shared → Prop} {elt : Expr} {gens : List Comprehension} {scope : Scope} {pos : Pos} {k : Nat} {it acc : Value} {env : Env} {g : Comprehension} (hg : gens[k]? = some g) (ha : g.is_async = 0)
    (h0 : codeAny W.md A (.compLoop (.ListComp elt gens scope pos) k it acc env) R s)
    (h : wpAny W.md A (pyIter it) (fun it' s' => codeAny W.md A (.compLoop (.ListComp elt gens scope pos) k it' acc env) R s') (notedBy W.md A env fun x s' => R (.error x) s') s) :
    codeAny W.md A (.compStart (.ListComp elt gens scope pos) k it acc env) R s := by
  refine codeAny_of_tree ?_
  show wpAny _ A ((compStart (.ListComp elt gens scope pos) k it acc env).onRaise (fun x => do noteFrame x env; standAt theWindowsPlace)) _ _ s
  refine wpAny_notedAt ?_
  have e : compStart (.ListComp elt gens scope pos) k it acc env = (do
      if (← ask).params.followText "comprehension-iter-twice" then return ← again (.compLoop (.ListComp elt gens scope pos) k it acc env)
      rule "comprehension.iter-twice"
      standAt g.iter.pos
      again (.compLoop (.ListComp elt gens scope pos) k (← pyIter it) acc env)) := by
    unfold compStart
    have : (clausesOf (.ListComp elt gens scope pos))[k]? = some g := hg
    simp only [this, Option.elim, ha]
    rfl
  rw [e]
  refine wpAny_bind (wpAny_askSetting (wpAny_ite ?_))
  split
  · exact wpAny_bind (wpAny_pure (wpAny_pure (And.intro rfl h0)))
  · exact wpAny_bind (wpAny_rule (wpAny_bind (wpAny_standAt (wpAny_bind (wpAny_mono h (fun it' s' h' => wpAny_pure (And.intro rfl h')) fun _ _ x => x)))))
end
end Sw

namespace Sw
section
noncomputable def nestB (elt : Expr) (gens : List Comprehension) (scope : Scope) (pos : Pos) (k : Nat) (iter : Expr) (env : Env) (acc : Value) : Sem Unit := do
  let x ← eval iter env
  standAt iter.pos
  let x ← foldedSetIterable iter env x
  let _ ← runOwn (.compStart (.ListComp elt gens scope pos) (k + 1) (← holding [x] (pyIter x)) acc env) env

section
variable {W : Wd} {d : Nat} {σ : Vars} {elt iter : Expr} {gens : List Comprehension} {scope : Scope} {pos : Pos} {k : Nat} {target : Expr} {ifs : List Expr} {body : Env → Value → Sem Unit} {p : Pos}

theorem BodyOk.nest {β β1 β' : Bk} {r : Res} {items : List PV} {out : List PyData} {g : Comprehension} (a : Ev W d σ β iter r β1) (hi : Items W r.pv items) (hr : RunsS W d σ target ifs body β1 items out β')
    (heq : ∀ it acc env, compTurn (.ListComp elt gens scope pos) (k + 1) it acc env = turnTree (.ListComp elt gens scope pos) (k + 1) target ifs body p it acc env) (hfr : Free σ target) (hg : gens[k + 1]? = some g) (ha : g.is_async = 0)
    (hs : ∀ env x, foldedSetIterable iter env x = pure x) : BodyOk W d σ β (nestB elt gens scope pos k iter) out β' := fun A env M ba s D X ys n E Q t ow hD hDX hX hDs hsz qq => by
  refine wpAny_bind (a.run A env [] M ba s E _ t fun v h1 tk1 c1 k1 r1 => ?_)
  refine wpAny_bind (wpAny_standAt (wpAny_bind (wpAny_of_eq (hs env v) (wpAny_bind (wpAny_holding ?_)))))
  have t1 := t.step c1 k1
  have hD1 : h1.get? D = some (lobj ys n) := k1 D _ hDs (t.co.book.not_list hDs)
  refine hi d A M ba β1 _ v E _ c1 (r1.pr t.co) fun I fp Stt h2 tk2 c2 k2 hI hI2 wk st => ?_
  have hIM : I ∉ M := c1.fresh hI
  have t2 : St W d A env σ [] (I :: M) ba β1 { s with heap := h2, toks := tk2 } := t1.hide (N := [I]) c2 (Kp.of_all k2) (fun m hm => by rw [List.mem_singleton.mp hm]; exact hI) (fun m hm => by rw [List.mem_singleton.mp hm]; exact hI2)
  have bam : ∀ a, ba = some a → a ∈ M := fun a e => by subst e; exact t.co.ba_mem
  have g2 : Going W A (frz h1 M) ba items I fp Stt (D :: X) (I :: M) 0 h2 := ⟨wk, st, frz_hide (N := [I]) (Kp.of_all k2) bam fun m hm => by rw [List.mem_singleton.mp hm]; exact hI, List.mem_cons_self, fun z => by
    rcases List.mem_cons.mp z with z | z
    · exact hIM (z ▸ hD)
    · exact hIM (hX _ z)⟩
  have loop := loop_run heq hfr (R := fun r s' => match r with | .ok f => (fun _ => wpAny W.md A (pure () : Sem Unit) Q E s') f | .error e => cameBackBy W.md A env E e s') hX hD hDX ow hIM hr 0 { s with heap := h2, toks := tk2 } ys n rfl (Nat.zero_le _) t2 g2 (k2 D _ hD1) hsz
    fun h3 tk3 ys' n' t3 k3 hD3 r3 => wpAny_pure (qq h3 tk3 ys' n' t3 (fun b o e hb hba => k3 b o (k2 _ _ (k1 b o e hba)) (fun z => by
      rcases List.mem_cons.mp z with z | z
      · subst z
        rw [show h1.get? b = some o from k1 b o e hba] at hI; cases hI
      · exact hb z) hba) hD3 r3)
  refine wpAny_bind (wpAny_runOwn ?_)
  refine start_any hg ha loop ?_
  exact wk.ws.self 0 _ _ _ st loop
end

/-- a comprehension's own frame -/
noncomputable def compNew (scope : Scope) (cl : List (Str × Addr)) (L : Addr) (env : Env) : Env :=
  { scope := scope, locals := L, globals := env.globals, cells := cellsFrom (L + 1) scope.names cl, qual := env.qual, func := none, code := env.code, frame := env.frame, builtins := env.builtins }
theorem wp_newComp {M : Model} {A : Around} {E : Value → Shared → Prop} {s : Shared} {env : Env} {scope : Scope} {cl : List (Str × Addr)} {Q : Env → Shared → Prop}
    (h : Q (compNew scope cl s.heap.objs.size env) { s with heap := pushCells (s.heap.push { cls := .type "dict", data := .dict #[] }) scope.names }) :
    wpAny M A (newFunctionEnv scope env.globals cl [] env.qual none .none (some env)) Q E s := by
  simp only [newFunctionEnv, Option.isSome_some, if_true]
  refine wpAny_bind (wpAny_alloc ?_)
  refine wpAny_bind (wpAny_layCells _ (fun name kind cells => by cases hkc : kind == NameKind.cell <;> simp) _ _ _ _ ?_)
  rw [show ({ s with heap := s.heap.push { cls := .type "dict", data := .dict #[] } } : Shared).heap.objs.size = s.heap.objs.size + 1 from Heap.size_push ..]
  rw [List.forIn_nil]
  exact wpAny_bind (wpAny_pure (wpAny_pure h))

theorem cellsFrom_append : ∀ (names : List (Str × NameKind)) (n : Nat) (acc : List (Str × Addr)), cellsFrom n names acc = cellsFrom n names [] ++ acc
  | [], _, _ => rfl
  | (x, k) :: r, n, acc => by
    unfold cellsFrom
    split
    · rw [cellsFrom_append r (n + 1) ((x, n) :: acc), cellsFrom_append r (n + 1) [(x, n)], List.append_assoc]; rfl
    · exact cellsFrom_append r n acc
theorem cellsFrom_name : ∀ (names : List (Str × NameKind)) (n : Nat) (acc : List (Str × Addr)), ∀ q ∈ cellsFrom n names acc, q ∈ acc ∨ (q.1, NameKind.cell) ∈ names
  | [], _, _, q, h => .inl h
  | (x, k) :: r, n, acc, q, h => by
    unfold cellsFrom at h
    split at h
    · rename_i hk
      rcases cellsFrom_name r _ _ q h with h | h
      · rcases List.mem_cons.mp h with rfl | h
        · refine .inr ?_
          have : k = NameKind.cell := by cases k <;> first | rfl | cases hk
          subst this; exact List.mem_cons_self
        · exact .inl h
      · exact .inr (List.mem_cons_of_mem _ h)
    · rcases cellsFrom_name r _ _ q h with h | h
      · exact .inl h
      · exact .inr (List.mem_cons_of_mem _ h)
theorem lookup_append_none {l l' : List (Str × Addr)} {x : Str} (h : ∀ q ∈ l, q.1 ≠ x) : (l ++ l').lookup x = l'.lookup x := by
  induction l with
  | nil => rfl
  | cons q r ih =>
    obtain ⟨n, c⟩ := q
    rw [List.cons_append, List.lookup_cons]
    have : (x == n) = false := by simpa using fun z : x = n => h (n, c) List.mem_cons_self z.symm
    rw [this]; exact ih fun q hq => h q (List.mem_cons_of_mem _ hq)

/-- what the comprehension's free names are bound to -/
noncomputable def closeOf (env : Env) (names : List (Str × NameKind)) (acc : List (Str × Addr)) : List (Str × Addr) :=
  names.foldl (fun cs x => if x.2 == .free then (x.1, (env.cells.lookup x.1).getD 0) :: cs else cs) acc
theorem close_loop {env : Env} (f : Str × NameKind → List (Str × Addr) → Sem (ForInStep (List (Str × Addr))))
    (hf : ∀ x cs, f x cs = if (x.2 == .free) = true then (do let c ← cellOf env x.1; pure (.yield ((x.1, c) :: cs))) else pure (.yield cs)) :
    ∀ (names : List (Str × NameKind)) (acc : List (Str × Addr)), (∀ x ∈ names, x.2 = .free → (env.cells.lookup x.1).isSome = true) → forIn names acc f = (pure (closeOf env names acc) : Sem _)
  | [], acc, _ => rfl
  | x :: r, acc, hx => by
    have ih := close_loop f hf r
    rw [List.forIn_cons, hf]
    by_cases hk : (x.2 == .free) = true
    · have hf' : x.2 = .free := by cases hx2 : x.2 <;> rw [hx2] at hk <;> first | rfl | cases hk
      obtain ⟨c, hc⟩ := Option.isSome_iff_exists.mp (hx x List.mem_cons_self hf')
      have e1 : cellOf env x.1 = pure c := by unfold cellOf; rw [hc]
      rw [if_pos hk, e1, pure_bind, pure_bind]
      show forIn r _ f = _
      rw [ih _ fun y hy => hx y (List.mem_cons_of_mem _ hy)]
      simp only [closeOf, List.foldl_cons, hk, if_true, hc, Option.getD_some]
    · rw [if_neg hk, pure_bind]
      show forIn r _ f = _
      rw [ih _ fun y hy => hx y (List.mem_cons_of_mem _ hy)]
      simp only [closeOf, List.foldl_cons]
      rw [if_neg hk]
theorem closureFor_eq {scope : Scope} {env : Env} (h : ∀ x ∈ scope.names, x.2 = .free → (env.cells.lookup x.1).isSome = true) : closureFor scope env = pure (closeOf env scope.names []) := by
  have e := close_loop (env := env) (fun x cs => (match x with
      | (name, kind) => if (kind == NameKind.free) = true then do
          let c ← cellOf env name
          pure (ForInStep.yield ((name, c) :: cs)) else pure (ForInStep.yield cs) : Sem _)) (fun x cs => rfl) scope.names [] h
  show (forIn scope.names ([] : List (Str × Addr)) _ >>= fun cs => pure cs) = _
  exact (congrArg (· >>= fun cs => pure cs) e).trans (pure_bind _ _)
theorem closeOf_mem (env : Env) : ∀ (names : List (Str × NameKind)) (acc : List (Str × Addr)) (x : Str) (c : Addr), (closeOf env names acc).lookup x = some c → (∀ y ∈ names, y.2 = .free → (env.cells.lookup y.1).isSome = true) → acc.lookup x = some c ∨ env.cells.lookup x = some c
  | [], _, _, _, h, _ => .inl h
  | (n, k) :: r, acc, x, c, h, hx => by
    have h' : (closeOf env r (if (k == .free) = true then (n, (env.cells.lookup n).getD 0) :: acc else acc)).lookup x = some c := h
    rcases closeOf_mem env r _ x c h' fun y hy => hx y (List.mem_cons_of_mem _ hy) with q | q
    · by_cases hk : (k == .free) = true
      · rw [if_pos hk, List.lookup_cons] at q
        by_cases hxn : (x == n) = true
        · rw [hxn] at q
          have hkf : k = .free := by cases k <;> first | rfl | cases hk
          obtain ⟨c', hc'⟩ := Option.isSome_iff_exists.mp (hx (n, k) List.mem_cons_self hkf)
          have e : n = x := (beq_iff_eq.mp hxn).symm
          have hc'' : env.cells.lookup n = some c' := hc'
          rw [hc''] at q
          have q' : c' = c := by simpa using q
          rw [← e, ← q']; exact .inr hc''
        · have : (x == n) = false := by simpa using hxn
          rw [this] at q; exact .inl q
      · rw [if_neg hk] at q; exact .inl q
    · exact .inr q
theorem closeOf_has (env : Env) : ∀ (names : List (Str × NameKind)) (acc : List (Str × Addr)) (x : Str), ((x, NameKind.free) ∈ names ∨ (acc.lookup x).isSome = true) → ((closeOf env names acc).lookup x).isSome = true
  | [], _, _, h => h.elim (fun h => nomatch h) id
  | (n, k) :: r, acc, x, h => by
    show ((closeOf env r (if (k == .free) = true then (n, (env.cells.lookup n).getD 0) :: acc else acc)).lookup x).isSome = true
    refine closeOf_has env r _ x ?_
    by_cases hxn : (x == n) = true
    · by_cases hk : (k == .free) = true
      · refine .inr ?_
        rw [if_pos hk, List.lookup_cons, hxn]; rfl
      · rw [if_neg hk]
        rcases h with h | h
        · rcases List.mem_cons.mp h with e | h
          · cases e; exact absurd rfl hk
          · exact .inl h
        · exact .inr h
    · have hx' : (x == n) = false := by simpa using hxn
      rcases h with h | h
      · rcases List.mem_cons.mp h with e | h
        · cases e; simp at hxn
        · exact .inl h
      · refine .inr ?_
        split
        · rw [List.lookup_cons, hx']; exact h
        · exact h
end
end Sw

namespace Sw
section
noncomputable def kAll (names : List (Str × NameKind)) (x : Str) (k : NameKind) : Bool := names.lookup x == some k && names.all fun e => !(e.1 == x) || e.2 == k
theorem kAll_lookup {names x k} (h : kAll names x k = true) : names.lookup x = some k := by
  simp only [kAll, Bool.and_eq_true] at h; simpa using h.1
theorem kAll_all {names x k} (h : kAll names x k = true) : ∀ e ∈ names, e.1 = x → e.2 = k := fun e he hx => by
  simp only [kAll, Bool.and_eq_true, List.all_eq_true] at h
  have := h.2 e he
  rw [hx] at this
  simpa using this

inductive FreeOk (σ : Vars) : List (Str × NameKind) → Prop
  | nil : FreeOk σ []
  | skip {n k r} : k ≠ .free → FreeOk σ r → FreeOk σ ((n, k) :: r)
  | free {x l p r} : (⟨x, l, .fz p⟩ : Var) ∈ σ → l ≠ .loc → FreeOk σ r → FreeOk σ ((Str.ofString x, .free) :: r)
inductive CV (names : List (Str × NameKind)) (σ : Vars) : Vars → Prop
  | nil : CV names σ []
  | glob {x r} : okName x → kAll names (Str.ofString x) .globalImplicit = true → CV names σ r → CV names σ (⟨x, .loc, .glob⟩ :: r)
  | free {x l p r} : (⟨x, l, .fz p⟩ : Var) ∈ σ → l ≠ .loc → kAll names (Str.ofString x) .free = true → CV names σ r → CV names σ (⟨x, .free, .fz p⟩ :: r)
  | loc {x r} : okName x → kAll names (Str.ofString x) .local = true → CV names σ r → CV names σ (⟨x, .loc, .unb⟩ :: r)
  | cell {x r} : okName x → kAll names (Str.ofString x) .cell = true → CV names σ r → CV names σ (⟨x, .cell, .unb⟩ :: r)

theorem relabel_lookup {scope : Scope} {env : Env} {x : Str} {k : NameKind} (h : scope.names.lookup x = some k) : (relabel scope env).names.lookup x = some (if (k == .free && env.scope.kind == .function && env.kindOf x == some .cell) = true then .cell else k) := by
  have key : ∀ (l : List (Str × NameKind)), l.lookup x = some k → (l.map fun (n, k) => if (k == NameKind.free && env.scope.kind == .function && env.kindOf n == some .cell) then (n, NameKind.cell) else (n, k)).lookup x = some (if (k == .free && env.scope.kind == .function && env.kindOf x == some .cell) = true then .cell else k) := by
    intro l
    induction l with
    | nil => intro h; cases h
    | cons q r ih =>
      obtain ⟨n, k'⟩ := q
      intro h
      rw [List.map_cons]
      cases hx : x == n with
      | true =>
        rw [List.lookup_cons, hx] at h
        have hk : k' = k := by simpa using h
        have hn : n = x := (beq_iff_eq.mp hx).symm
        subst hk; subst hn
        dsimp only
        split <;> simp
      | false =>
        rw [List.lookup_cons, hx] at h
        dsimp only
        split <;> (rw [List.lookup_cons, hx]; exact ih h)
  exact key scope.names h

theorem lookup_append_some {l l' : List (Str × Addr)} {x : Str} {c : Addr} (h : l.lookup x = some c) : (l ++ l').lookup x = some c := by
  rw [List.lookup_append, h]; rfl

section
variable {W : Wd} {d : Nat} {A : Around} {env : Env} {σ σc : Vars} {O : List (String × Addr)} {M : List Addr} {ba : Option Addr} {β β' : Bk} {s : Shared} {scope : Scope}

noncomputable def compEnv2 (scope : Scope) (env : Env) (C : Addr) : Env := { compNew scope (closeOf env scope.names []) C env with scope := relabel scope env }
noncomputable def ownCells (scope : Scope) (C : Addr) : List Addr := (cellsFrom (C + 1) scope.names []).map (·.2)

theorem free_some (t : St W d A env σ O M ba β s) (hf : FreeOk σ scope.names) : ∀ x ∈ scope.names, x.2 = .free → (env.cells.lookup x.1).isSome = true := by
  have key : ∀ l : List (Str × NameKind), FreeOk σ l → ∀ x ∈ l, x.2 = .free → (env.cells.lookup x.1).isSome = true := by
    intro l h
    induction h with
    | nil => intro x hx; cases hx
    | skip hk _ ih =>
      intro x hx e
      rcases List.mem_cons.mp hx with rfl | hx
      · exact absurd e hk
      · exact ih x hx e
    | @free x l p r hm hl _ ih =>
      intro y hy e
      rcases List.mem_cons.mp hy with rfl | hy
      · have y : SlotOk env s.heap M ba O x l (.fz p) := t.vars _ hm
        have k := y.kind (by simp)
        cases l with
        | loc => exact absurd rfl hl
        | cell => obtain ⟨c, hc⟩ := k.2; show (env.cells.lookup (Str.ofString x)).isSome = true; rw [hc]; rfl
        | free => obtain ⟨c, hc⟩ := k.2; show (env.cells.lookup (Str.ofString x)).isSome = true; rw [hc]; rfl
      · exact ih y hy e
  exact key scope.names hf

theorem comp_st (t : St W d A env σ O M ba β s) (hf : FreeOk σ scope.names) (hcv : CV scope.names σ σc) (hkind : scope.kind = .function) {h1 : Heap} {N : List Addr} {tk : Nat} {β1 : Bk}
    (c1 : Co W d A M ba β1 { s with heap := h1, toks := tk }) (k1 : Kp ba s.heap h1) (hN : ∀ n ∈ N, s.heap.get? n = none ∧ (∃ o, h1.get? n = some o)) :
    St W d A (compEnv2 scope env h1.objs.size) σc [] (N ++ (h1.objs.size :: ownCells scope h1.objs.size ++ M)) ba β1 { s with heap := pushCells (h1.push { cls := .type "dict", data := .dict #[] }) scope.names, toks := tk } ∧
    OwnX σc (compEnv2 scope env h1.objs.size) (h1.objs.size :: ownCells scope h1.objs.size) ∧ (∀ c ∈ ownCells scope h1.objs.size, h1.objs.size < c) ∧
    (∀ b o, h1.get? b = some o → (pushCells (h1.push { cls := .type "dict", data := .dict #[] }) scope.names).get? b = some o) := by
  have keep : ∀ b o, h1.get? b = some o → (pushCells (h1.push { cls := .type "dict", data := .dict #[] }) scope.names).get? b = some o := fun b o e => pushCells_keeps _ _ b o (Heap.get?_push_of_some _ e)
  have ok := cellsFrom_ok scope.names (h1.push { cls := .type "dict", data := .dict #[] }) (h1.objs.size + 1) [] ⟨fun _ _ hm => (nomatch hm), List.Pairwise.nil⟩ (by rw [Heap.size_push]; exact Nat.le_refl _)
  rw [Heap.size_push] at ok
  have cells_eq : (compEnv2 scope env h1.objs.size).cells = cellsFrom (h1.objs.size + 1) scope.names [] ++ closeOf env scope.names [] := cellsFrom_append _ _ _
  have fs := free_some t hf
  have nsN : (pushCells (h1.push { cls := .type "dict", data := .dict #[] }) scope.names).Ns h1.objs.size fun _ => none := (Heap.Ns.new h1 (.type "dict")).keeps (pushCells_keeps _ _)
  have gt : ∀ c ∈ ownCells scope h1.objs.size, h1.objs.size < c := fun c hc => by
    obtain ⟨q, hq, rfl⟩ := List.mem_map.mp hc
    exact Nat.lt_of_succ_le (ok.empty q.1 q.2 hq).2
  have freshS : ∀ a, h1.objs.size ≤ a → s.heap.get? a = none := fun a ha => by
    cases e : s.heap.get? a with
    | none => rfl
    | some o =>
      exfalso
      have : ∃ o', h1.get? a = some o' := by
        by_cases hb : ba = some a
        · subst hb; exact c1.live a c1.ba_mem
        · exact ⟨o, k1 a o e hb⟩
      obtain ⟨o', e'⟩ := this
      exact absurd (Heap.lt_size e') (Nat.not_lt.mpr ha)
  have hn : ∀ n ∈ N ++ (h1.objs.size :: ownCells scope h1.objs.size), s.heap.get? n = none := fun n hm => by
    rcases List.mem_append.mp hm with hm | hm
    · exact (hN n hm).1
    · rcases List.mem_cons.mp hm with rfl | hm
      · exact freshS _ (Nat.le_refl _)
      · exact freshS _ (Nat.le_of_lt (gt n hm))
  have hl : ∀ n ∈ N ++ (h1.objs.size :: ownCells scope h1.objs.size), ∃ o, (pushCells (h1.push { cls := .type "dict", data := .dict #[] }) scope.names).get? n = some o := fun n hm => by
    rcases List.mem_append.mp hm with hm | hm
    · obtain ⟨o, e⟩ := (hN n hm).2; exact ⟨o, keep _ _ e⟩
    · rcases List.mem_cons.mp hm with rfl | hm
      · obtain ⟨o, _, _, e, _⟩ := nsN; exact ⟨o, e⟩
      · obtain ⟨q, hq, rfl⟩ := List.mem_map.mp hm
        obtain ⟨o, e, _⟩ := (ok.empty q.1 q.2 hq).1; exact ⟨o, e⟩
  have c2 := c1.step tk keep
  have c3 := t.co.hide (N := N ++ (h1.objs.size :: ownCells scope h1.objs.size)) c2 hn hl
  have le := frz_hide (M := M) (N := N ++ (h1.objs.size :: ownCells scope h1.objs.size)) (k1.trans (Kp.of_all keep)) (fun a e => by subst e; exact t.co.ba_mem) hn
  rw [List.append_assoc] at c3 le
  have cl_mem : ∀ {x c}, (closeOf env scope.names []).lookup x = some c → env.cells.lookup x = some c := fun {x c} h => (closeOf_mem env _ _ x c h fs).elim (fun h => by cases h) id
  have bk := t.co.book
  have oldcell : ∀ {x c v}, env.cells.lookup x = some c → s.heap.IsCell c v → (pushCells (h1.push { cls := .type "dict", data := .dict #[] }) scope.names).IsCell c v := fun {x c v} _ y => let ⟨o, p, q⟩ := y; ⟨o, keep _ _ (k1 _ _ p (bk.not_cell y)), q⟩
  have look : ∀ {x c}, (compEnv2 scope env h1.objs.size).cells.lookup x = some c → (x, c) ∈ cellsFrom (h1.objs.size + 1) scope.names [] ∨ env.cells.lookup x = some c := fun {x c} h => by
    rw [cells_eq, List.lookup_append] at h
    cases e : (cellsFrom (h1.objs.size + 1) scope.names []).lookup x with
    | some c' => rw [e] at h; cases h; exact .inl (mem_of_lookup e)
    | none => rw [e] at h; exact .inr (cl_mem h)
  have own_in : ∀ {x c}, (x, c) ∈ cellsFrom (h1.objs.size + 1) scope.names [] → c ∈ ownCells scope h1.objs.size := fun {x c} h => List.mem_map.mpr ⟨(x, c), h, rfl⟩
  have envlt : ∀ {x c}, env.cells.lookup x = some c → c < h1.objs.size := fun {x c} h => by
    obtain ⟨v, y⟩ := t.cc x c h
    obtain ⟨o, p, q⟩ := id y
    exact Heap.lt_size (k1 _ _ p (bk.not_cell y))
  refine ⟨⟨c3, hkind, t.glob, t.blt, fun z => ?_, ?_, ⟨_, nsN⟩, fun x c hc => ?_, fun x c hc => ?_, fun x y c hx hy => ?_, ?_, ?_⟩, ⟨List.mem_cons_self, ?_⟩, gt, keep⟩
  · have hb := t.co.live _ (show h1.objs.size ∈ M by have z' : ba = some h1.objs.size := z; subst z'; exact t.co.ba_mem)
    obtain ⟨o, e⟩ := hb; rw [freshS _ (Nat.le_refl _)] at e; cases e
  · show h1.objs.size ∈ _; simp
  · rcases look hc with h | h
    · have := own_in h; simp [this]
    · have := t.cm x c h; simp [this]
  · rcases look hc with h | h
    · exact ⟨_, (ok.empty x c h).1⟩
    · obtain ⟨v, y⟩ := t.cc x c h; exact ⟨v, oldcell h y⟩
  · rcases look hx with h | h <;> rcases look hy with h' | h'
    · exact name_of_addr ok.apart h h'
    · exact absurd (Nat.lt_trans (gt c (own_in h)) (envlt h')) (Nat.lt_irrefl _)
    · exact absurd (Nat.lt_trans (gt c (own_in h')) (envlt h)) (Nat.lt_irrefl _)
    · exact t.cinj x y c h h'
  · induction hcv with
    | nil => intro v hv; cases hv
    | glob hm _ _ ih =>
      intro v hv
      rcases List.mem_cons.mp hv with rfl | hv
      · exact hm
      · exact ih v hv
    | free hm _ _ _ ih =>
      intro v hv
      rcases List.mem_cons.mp hv with rfl | hv
      · have z := t.names _ hm; exact z
      · exact ih v hv
    | loc ho _ _ ih =>
      intro v hv
      rcases List.mem_cons.mp hv with rfl | hv
      · exact ho
      · exact ih v hv
    | cell ho _ _ ih =>
      intro v hv
      rcases List.mem_cons.mp hv with rfl | hv
      · exact ho
      · exact ih v hv
  · induction hcv with
    | nil => intro v hv; cases hv
    | @glob x r hm hk _ ih =>
      intro v hv
      rcases List.mem_cons.mp hv with rfl | hv
      · exact .glob (by
          show (relabel scope env).names.lookup _ = _
          rw [relabel_lookup (kAll_lookup hk)]; rfl)
      · exact ih v hv
    | @free x l p r hm hl hk _ ih =>
      intro v hv
      rcases List.mem_cons.mp hv with rfl | hv
      · have y : SlotOk env s.heap M ba O x l (.fz p) := t.vars _ hm
        have hnone : ∀ q ∈ cellsFrom (h1.objs.size + 1) scope.names [], q.1 ≠ Str.ofString x := fun q hq z => by
          rcases cellsFrom_name _ _ _ q hq with h | h
          · cases h
          · have := kAll_all hk _ h z; cases this
        have hmemf : (Str.ofString x, NameKind.free) ∈ scope.names := mem_of_lookup (kAll_lookup hk)
        obtain ⟨c, hc⟩ := Option.isSome_iff_exists.mp (closeOf_has env scope.names [] (Str.ofString x) (.inl hmemf))
        have hc' := cl_mem hc
        have hlook : (compEnv2 scope env h1.objs.size).cells.lookup (Str.ofString x) = some c := by rw [cells_eq, lookup_append_none hnone]; exact hc
        have kd : (compEnv2 scope env h1.objs.size).kindOf (Str.ofString x) = some .cell ∨ (compEnv2 scope env h1.objs.size).kindOf (Str.ofString x) = some .free := by
          show (relabel scope env).names.lookup _ = _ ∨ (relabel scope env).names.lookup _ = _
          rw [relabel_lookup (kAll_lookup hk)]
          split
          · exact .inl rfl
          · exact .inr rfl
        cases y with
        | @fz v _ a b cc =>
          refine .fz ⟨kd, c, hlook⟩ ?_ (cc.mono le)
          have hb : ∃ c, env.cells.lookup (Str.ofString x) = some c ∧ s.heap.IsCell c (some v) := by
            cases l with
            | loc => exact absurd rfl hl
            | cell => exact b
            | free => exact b
          obtain ⟨c2, e2, y2⟩ := hb
          rw [hc'] at e2; cases e2
          exact ⟨c, hlook, oldcell hc' y2⟩
      · exact ih v hv
    | @loc x r ho hk _ ih =>
      intro v hv
      rcases List.mem_cons.mp hv with rfl | hv
      · exact .unb (by
          show (relabel scope env).names.lookup _ = _
          rw [relabel_lookup (kAll_lookup hk)]; rfl)
      · exact ih v hv
    | @cell x r ho hk _ ih =>
      intro v hv
      rcases List.mem_cons.mp hv with rfl | hv
      · refine .unb ⟨?_, ?_⟩
        · show (relabel scope env).names.lookup _ = _
          rw [relabel_lookup (kAll_lookup hk)]; rfl
        · obtain ⟨c, hc⟩ := Option.isSome_iff_exists.mp (cellsFrom_some (x := Str.ofString x) scope.names (h1.objs.size + 1) [] (.inl (kAll_lookup hk)))
          exact ⟨c, by rw [cells_eq]; exact lookup_append_some hc⟩
      · exact ih v hv
  · intro v hv ha c hc
    refine List.mem_cons_of_mem _ ?_
    have hk : kAll scope.names (Str.ofString v.name) .cell = true := by
      clear c3 le look own_in cells_eq
      induction hcv with
      | nil => cases hv
      | @glob x r hm hk _ ih =>
        rcases List.mem_cons.mp hv with rfl | hv
        · cases ha
        · exact ih hv
      | @free x l p r hm hl hk _ ih =>
        rcases List.mem_cons.mp hv with rfl | hv
        · cases ha
        · exact ih hv
      | @loc x r ho hk _ ih =>
        rcases List.mem_cons.mp hv with rfl | hv
        · cases ha
        · exact ih hv
      | @cell x r ho hk _ ih =>
        rcases List.mem_cons.mp hv with rfl | hv
        · exact hk
        · exact ih hv
    obtain ⟨c', hc'⟩ := Option.isSome_iff_exists.mp (cellsFrom_some (x := Str.ofString v.name) scope.names (h1.objs.size + 1) [] (.inl (kAll_lookup hk)))
    have : (compEnv2 scope env h1.objs.size).cells.lookup (Str.ofString v.name) = some c' := by rw [cells_eq]; exact lookup_append_some hc'
    rw [this] at hc; cases hc
    exact own_in (mem_of_lookup hc')

theorem Co.sub {N} {s : Shared} (c : Co W d A N ba β s) (k : ∀ m ∈ M, m ∈ N) (hb : ∀ a, ba = some a → a ∈ M) : Co W d A M ba β s :=
  ⟨c.hand, c.room, c.units, fun b o e => ⟨(c.base b o e).1, fun z => (c.base b o e).2 (k b z)⟩, fun m hm => c.live m (k m hm), by
    have b := c.book
    cases ba with
    | none => trivial
    | some a => exact ⟨hb a rfl, b.2⟩⟩

theorem comp_core {elt iter : Expr} {rest : List Comprehension} {pos : Pos} {target : Expr} {ifs : List Expr} {body : Env → Value → Sem Unit} {p : Pos} {xp : PV} {items : List PV} {out : List PyData} {xv : Value} {RR' : Value → Addr → Result → Shared → Prop} {E : Value → Shared → Prop}
    (t : St W d A env σ O M ba β s) (hv : PR (frz s.heap M) ba xv xp) (hi : Items W xp items) (hf : FreeOk σ scope.names) (hcv : CV scope.names σ σc) (hkind : scope.kind = .function)
    (hr : RunsS W d σc target ifs body β items out β') (heq : ∀ it acc env, compTurn (.ListComp elt (⟨target, iter, ifs, 0⟩ :: rest) scope pos) 0 it acc env = turnTree (.ListComp elt (⟨target, iter, ifs, 0⟩ :: rest) scope pos) 0 target ifs body p it acc env)
    (hfr : Free σc target) (hlen : out.length ≤ 2 ^ 20)
    (K : ∀ D C h3 tk3 ys n m, Co W d A M ba β' { s with heap := h3, toks := tk3 } → Kp ba s.heap h3 → s.heap.get? D = none → s.heap.get? C = none → D ≠ C → h3.Ns C m → h3.get? D = some (lobj ys n) → VRs (frz h3 (D :: C :: M)) ys.toList out →
      RR' (.ref D) C (.ok .next) { s with heap := h3, toks := tk3 }) :
    wpAny W.md A (pyIter xv) (fun it s₂ => wpAny W.md A (newList []) (fun acc s₃ => wpAny W.md A (newFunctionEnv scope env.globals (closeOf env scope.names []) [] env.qual none .none (some env)) (fun cenv s₄ =>
      codeAny W.md A (.compStart (.ListComp elt (⟨target, iter, ifs, 0⟩ :: rest) scope pos) 0 it acc { cenv with scope := relabel scope env }) (RR' acc cenv.locals) s₄) E s₃) E s₂) E s := by
  refine hi d A M ba β _ xv E _ t.co hv fun I fp Stt h1 tk1 c1 k1 hI hI1 wk st => ?_
  obtain ⟨c2, k2, hDn, hD2, hDf⟩ := push_new c1 { cls := .type "list", data := .seq ([] : List Value).toArray } rfl tk1
  refine new_list ?_ (by simp)
  refine wp_newComp ?_
  have hIh1 : I < h1.objs.size := by obtain ⟨o, e⟩ := hI1; exact Heap.lt_size e
  have hC : (h1.push { cls := .type "list", data := .seq ([] : List Value).toArray } : Heap).objs.size = h1.objs.size + 1 := Heap.size_push ..
  have hDs : s.heap.get? h1.objs.size = none := by
    cases e : s.heap.get? h1.objs.size with
    | none => rfl
    | some o => exact absurd (Heap.lt_size (k1 _ _ e)) (Nat.lt_irrefl _)
  obtain ⟨t3, ow, gt, keep⟩ := comp_st (N := [I, h1.objs.size]) (tk := tk1) t hf hcv hkind c2 ((Kp.of_all k1).trans k2) fun n hn => by
    rcases List.mem_cons.mp hn with rfl | hn
    · refine ⟨hI, ?_⟩; obtain ⟨o, e⟩ := hI1; exact ⟨o, Heap.get?_push_of_some _ e⟩
    · rw [List.mem_singleton.mp hn]; exact ⟨hDs, _, hD2⟩
  generalize hh3 : pushCells ((h1.push { cls := .type "list", data := .seq ([] : List Value).toArray } : Heap).push { cls := .type "dict", data := .dict #[] }) scope.names = h3 at t3 keep
  generalize hCC : (h1.push { cls := .type "list", data := .seq ([] : List Value).toArray } : Heap).objs.size = C at t3 ow gt hC
  have hsh : ({ s with heap := h3, toks := tk1 } : Shared) = { s with heap := pushCells ((h1.push { cls := .type "list", data := .seq ([] : List Value).toArray } : Heap).push { cls := .type "dict", data := .dict #[] }) scope.names, toks := tk1 } := by rw [hh3]
  have hall : ∀ b o, s.heap.get? b = some o → h3.get? b = some o := fun b o e => keep _ _ (Heap.get?_push_of_some _ (k1 b o e))
  have hne : ∀ {b o}, s.heap.get? b = some o → b ≠ I ∧ b ≠ h1.objs.size ∧ b < h1.objs.size := fun {b o} e => ⟨fun z => (by subst z; rw [hI] at e; cases e), fun z => (by subst z; rw [hDs] at e; cases e), Heap.lt_size (k1 _ _ e)⟩
  have bam : ∀ a, ba = some a → a ∈ M := fun a e => by subst e; exact t.co.ba_mem
  have hX : ∀ x ∈ C :: ownCells scope C, x ∈ h1.objs.size :: (C :: ownCells scope C ++ M) := fun x hx => List.mem_cons_of_mem _ (List.mem_append_left _ hx)
  have hgtI : ∀ x ∈ C :: ownCells scope C, h1.objs.size < x := fun x hx => by
    rcases List.mem_cons.mp hx with rfl | hx
    · rw [hC]; exact Nat.lt_succ_self _
    · exact Nat.lt_trans (by rw [hC]; exact Nat.lt_succ_self _) (gt x hx)
  have hMlt : ∀ x ∈ M, x ≠ I ∧ x < h1.objs.size := fun x hx => by obtain ⟨o, e⟩ := t.co.live x hx; exact ⟨(hne e).1, (hne e).2.2⟩
  have hDX : h1.objs.size ∉ C :: ownCells scope C := fun z => Nat.lt_irrefl _ (hgtI _ z)
  have hIN : I ∉ h1.objs.size :: (C :: ownCells scope C ++ M) := fun z => by
    rcases List.mem_cons.mp z with z | z
    · exact Nat.lt_irrefl _ (z ▸ hIh1)
    · rcases List.mem_append.mp z with z | z
      · exact Nat.lt_irrefl _ (Nat.lt_trans (hgtI _ z) hIh1)
      · exact (hMlt _ z).1 rfl
  have hD3 : h3.get? h1.objs.size = some (lobj #[] 0) := keep _ _ hD2
  have g3 : Going W A (frz s.heap M) ba items I fp Stt (h1.objs.size :: (C :: ownCells scope C)) (I :: h1.objs.size :: (C :: ownCells scope C ++ M)) 0 h3 := by
    refine ⟨wk, wk.ws.frame _ _ _ st fun b _ o e => keep _ _ (Heap.get?_push_of_some _ e), ?_, List.mem_cons_self, fun z => hIN ?_⟩
    · have := frz_hide (M := M) (N := I :: h1.objs.size :: (C :: ownCells scope C)) (Kp.of_all (ba := ba) hall) bam fun n hn => by
        rcases List.mem_cons.mp hn with rfl | hn
        · exact hI
        · cases e : s.heap.get? n with
          | none => rfl
          | some o =>
            have h3 := hne e
            rcases List.mem_cons.mp hn with rfl | hn
            · exact absurd rfl h3.2.1
            · exact absurd h3.2.2 (Nat.not_lt.mpr (Nat.le_of_lt (hgtI n hn)))
      exact this
    · rcases List.mem_cons.mp z with z | z
      · exact z ▸ List.mem_cons_self
      · exact hX _ z
  have loop : codeAny W.md A (.compLoop (.ListComp elt (⟨target, iter, ifs, 0⟩ :: rest) scope pos) 0 (.ref I) (.ref h1.objs.size) (compEnv2 scope env C)) (RR' (.ref h1.objs.size) C) { s with heap := h3, toks := tk1 } := by
    refine loop_run heq hfr (N := h1.objs.size :: (C :: ownCells scope C ++ M)) hX List.mem_cons_self hDX ow hIN hr 0 _ #[] 0 rfl (Nat.zero_le _) t3 g3 hD3 (by simpa using hlen) fun h4 tk4 ys n t4 k4 hD4 r4 => ?_
    obtain ⟨m, nm⟩ := t4.ns
    have k4' : ∀ b o, s.heap.get? b = some o → ba ≠ some b → h4.get? b = some o := fun b o e hb => k4 b o (hall _ _ e) (fun z => by
      have h5 := hne e
      rcases List.mem_cons.mp z with z | z
      · exact h5.1 z
      · rcases List.mem_cons.mp z with z | z
        · exact h5.2.1 z
        · exact absurd h5.2.2 (Nat.not_lt.mpr (Nat.le_of_lt (hgtI _ z)))) hb
    refine K h1.objs.size C h4 tk4 ys n m (t4.co.sub (fun m hm => List.mem_cons_of_mem _ (List.mem_append_right _ hm)) bam) k4' hDs ?_ (fun z => by rw [hC] at z; exact absurd z (Nat.ne_of_lt (Nat.lt_succ_self _))) nm (by simpa using hD4) (r4.mono (frz_sub fun a ha => ?_))
    · cases e : s.heap.get? C with
      | none => rfl
      | some o => exact absurd (hne e).2.2 (Nat.not_lt.mpr (by rw [hC]; exact Nat.le_succ _))
    · rcases List.mem_cons.mp ha with rfl | ha
      · exact List.mem_cons_self
      · rcases List.mem_cons.mp ha with rfl | ha
        · exact List.mem_cons_of_mem _ (List.mem_append_left _ List.mem_cons_self)
        · exact List.mem_cons_of_mem _ (List.mem_append_right _ ha)
  subst hCC
  subst hh3
  refine start_any rfl rfl loop ?_
  exact g3.wk.ws.self 0 _ _ _ g3.st loop
end
end
end Sw

namespace Sw
section
theorem Co.off {W d A M ba β} {s : Shared} (c : Co W d A M ba β s) {a : Addr} (ha : a ∉ M) (h0 : W.h0.get? a = none) {h' : Heap} (hs : Heap.SameBut a s.heap h') (tk : Nat) :
    Co W d A M ba β { s with heap := h', toks := tk } :=
  have k : ∀ b o, b ≠ a → s.heap.get? b = some o → h'.get? b = some o := fun b o n e => (hs.2 b n).trans e
  ⟨c.hand, c.room, c.units, fun b o e => ⟨k b o (fun z => by subst z; rw [h0] at e; cases e) (c.base b o e).1, (c.base b o e).2⟩,
    fun m hm => by obtain ⟨o, e⟩ := c.live m hm; exact ⟨o, k m o (fun z => ha (z ▸ hm)) e⟩,
    c.book.at fun b e o e' => k b o (fun z => ha (by subst e; exact z ▸ c.ba_mem)) e'⟩

section
variable {W : Wd} {d : Nat} {σ σc : Vars} {β β1 β' : Bk} {elt iter : Expr} {rest : List Comprehension} {scope : Scope} {pos : Pos} {target : Expr} {ifs : List Expr} {body : Env → Value → Sem Unit} {p : Pos} {r : Res} {items : List PV} {out : List PyData}

theorem Ev.comp (a : Ev W d σ β iter r β1) (hi : Items W r.pv items) (hf : FreeOk σ scope.names) (hcv : CV scope.names σ σc) (hr : RunsS W d σc target ifs body β1 items out β')
    (heq : ∀ it acc env, compTurn (.ListComp elt (⟨target, iter, ifs, 0⟩ :: rest) scope pos) 0 it acc env = turnTree (.ListComp elt (⟨target, iter, ifs, 0⟩ :: rest) scope pos) 0 target ifs body p it acc env)
    (hfr : Free σc target) (hlen : out.length ≤ 2 ^ 20) (hkind : scope.kind = .function := by rfl) (hnm : ∀ x ∈ scope.names, x.2 = .local → scope.names.lookup x.1 = some .local := by decide)
    (hs : ∀ env x, foldedSetIterable iter env x = pure x := by intro _ _; rfl) :
    Ev W d σ β (.ListComp elt (⟨target, iter, ifs, 0⟩ :: rest) scope pos) (.new out) β' := .mk fun A env O M ba s E Q t q => by
  rw [eval_ListComp]
  refine wpAny_comprehension_free (use := none) rfl (hs env) (closureFor_eq (free_some t hf)) hkind hnm (a.run A env O M ba s E _ t fun xv h1 tk1 c1 k1 r1 => ?_)
  have t1 := t.step c1 k1
  refine comp_core (RR' := compPost W.md A E none Q) t1 (r1.pr t.co) hi hf hcv hkind hr heq hfr hlen fun D C h3 tk3 ys n m c3 k3 hD hC hDC nC hD3 r3 => ?_
  refine ⟨m, nC, fun h4 hs4 => ?_⟩
  have hCM : C ∉ M := c1.fresh hC
  have hC0 : W.h0.get? C = none := by
    cases e : W.h0.get? C with
    | none => rfl
    | some o => have := (c1.base C o e).1; rw [hC] at this; cases this
  have c4 := c3.off hCM hC0 hs4 tk3
  have k4 : Kp ba h1 h4 := fun b o e n => (hs4.2 b fun z => by subst z; rw [show h1.get? b = some o from e] at hC; cases hC).trans (k3 b o e n)
  refine q _ h4 tk3 c4 (k1.trans k4) (RR.later (s := s) (h₁ := h1) t.co c1 k1 (.new hD ((hs4.2 D hDC).trans hD3) (r3.mono fun b o e => ?_)))
  obtain ⟨x, y⟩ := frz_some.mp e
  simp only [List.mem_cons, not_or] at x
  exact frz_some.mpr ⟨by simp [x.1, x.2.2], (hs4.2 b x.2.1).trans y⟩
end

/-- a frame at work: what its statements may touch is new since g, and hidden; what g holds stays -/
structure Act (W : Wd) (d : Nat) (A : Around) (env : Env) (σ : Vars) (O : List (String × Addr)) (M : List Addr) (ba : Option Addr) (β : Bk) (s : Shared) (g : Fz) (N : List Addr) : Prop where
  st : St W d A env σ O M ba β s
  keep : ∀ b o, g b = some o → s.heap.get? b = some o
  gL : g env.locals = none
  gc : ∀ x c, env.cells.lookup x = some c → g c = none
  go : ∀ x a, (x, a) ∈ O → g a = none
  gb : ∀ a, ba = some a → g a = none
  nm : ∀ m ∈ N, m ∈ M
  on : ∀ x a, (x, a) ∈ O → a ∉ N
  oinj : ∀ x y a, (x, a) ∈ O → (y, a) ∈ O → x = y
  om : ∀ x a, (x, a) ∈ O → a ∈ M
  gm : ∀ b o, g b = some o → b ∈ M → b ∈ N

inductive Fl where
  | next (σ : Vars)
  | brk (σ : Vars)
  | ret (p : PV)
noncomputable def Fl.vars : Fl → Vars
  | .next σ => σ
  | .brk σ => σ
  | .ret _ => []
inductive FlR (h : Heap) (M : List Addr) (ba : Option Addr) : Flow → Fl → Prop
  | next {σ} : FlR h M ba .next (.next σ)
  | brk {σ} : FlR h M ba .brk (.brk σ)
  | ret {v p} : PR (frz h M) ba v p → FlR h M ba (.ret v) (.ret p)
noncomputable def FlPost (W : Wd) (d : Nat) (A : Around) (env : Env) (ba : Option Addr) (β' : Bk) (s : Shared) (g : Fz) (N : List Addr) (o : Fl) (Q : Flow → Shared → Prop) : Prop :=
  ∀ f O M h' tk, Act W d A env o.vars O M ba β' { s with heap := h', toks := tk } g N → FlR h' M ba f o → Q f { s with heap := h', toks := tk }
structure Ex (W : Wd) (d : Nat) (σ : Vars) (β : Bk) (ss : List Stmt) (o : Fl) (β' : Bk) : Prop where
  run : ∀ A env O M ba s g N E Q, Act W d A env σ O M ba β s g N → FlPost W d A env ba β' s g N o Q → wpAny W.md A (execs ss env) Q E s
structure X1 (W : Wd) (d : Nat) (σ : Vars) (β : Bk) (ss : Stmt) (o : Fl) (β' : Bk) : Prop where
  run : ∀ A env O M ba s g N E Q, Act W d A env σ O M ba β s g N → FlPost W d A env ba β' s g N o Q → wpAny W.md A (exec ss env) Q E s

theorem Act.step {W d A env σ O M ba β β' g N} {s : Shared} (a : Act W d A env σ O M ba β s g N) {h' : Heap} {tk : Nat} (c : Co W d A M ba β' { s with heap := h', toks := tk }) (k : Kp ba s.heap h') :
    Act W d A env σ O M ba β' { s with heap := h', toks := tk } g N :=
  ⟨a.st.step c k, fun b o e => k b o (a.keep b o e) (fun z => (by rw [a.gb b z] at e; cases e)), a.gL, a.gc, a.go, a.gb, a.nm, a.on, a.oinj, a.om, a.gm⟩

theorem Ex.nil {W d σ β} : Ex W d σ β [] (.next σ) β := .mk fun A env O M ba s g N E Q t q => wpAny_execs_nil (q _ O M s.heap s.toks t .next)
theorem Ex.cons {W d σ β σ1 β1 st ss o β'} (a : X1 W d σ β st (.next σ1) β1) (b : Ex W d σ1 β1 ss o β') : Ex W d σ β (st :: ss) o β' := .mk fun A env O M ba s g N E Q t q => by
  refine wpAny_execs_cons (a.run A env O M ba s g N E _ t fun f O1 M1 h1 tk1 t1 r1 => ?_)
  cases r1
  exact b.run A env O1 M1 ba _ g N E Q t1 fun f O2 M2 h2 tk2 t2 r2 => q f O2 M2 h2 tk2 t2 r2
theorem Ex.stop {W d σ β st ss o β'} (a : X1 W d σ β st o β') (hn : ∀ τ, o ≠ .next τ) : Ex W d σ β (st :: ss) o β' := .mk fun A env O M ba s g N E Q t q => by
  refine wpAny_execs_cons (a.run A env O M ba s g N E _ t fun f O1 M1 h1 tk1 t1 r1 => ?_)
  cases r1 with
  | next => exact absurd rfl (hn _)
  | brk => exact q _ O1 M1 h1 tk1 t1 .brk
  | ret h => exact q _ O1 M1 h1 tk1 t1 (.ret h)
theorem Ex.ret {W d σ β st ss p β'} (a : X1 W d σ β st (.ret p) β') : Ex W d σ β (st :: ss) (.ret p) β' := Ex.stop a fun _ => by simp
theorem Ex.brk {W d σ β st ss τ β'} (a : X1 W d σ β st (.brk τ) β') : Ex W d σ β (st :: ss) (.brk τ) β' := Ex.stop a fun _ => by simp

/-- a store of the frame's own -/
theorem act_store {W d A env σ O M ba β g N} {s : Shared} (t : Act W d A env σ O M ba β s g N) {x : String} {l : Loc} {sl : Slot} (hx : (⟨x, l, sl⟩ : Var) ∈ σ) (hl : l ≠ .free) (hg : sl ≠ .glob) {v : Value} {p : PV} (hv : PR (frz s.heap M) ba v p)
    {E : Value → Shared → Prop} {Q : Unit → Shared → Prop} (q : ∀ h' tk, Act W d A env (σ.put x (.fz p)) O M ba β { s with heap := h', toks := tk } g N → Q () { s with heap := h', toks := tk }) :
    wpAny W.md A (storeName env (Str.ofString x) v) Q E s :=
  wp_store t.st hx hl hg hv fun h1 tk1 a t1 sb pl => by
    have hga : g a = none := by
      cases l with
      | loc => exact (show a = env.locals from pl) ▸ t.gL
      | cell => exact t.gc _ _ pl
      | free => exact absurd rfl hl
    exact q h1 tk1 ⟨t1, fun b o e => (sb.2 b (fun z => (by subst z; rw [hga] at e; cases e))).trans (t.keep b o e), t.gL, t.gc, t.go, t.gb, t.nm, t.on, t.oinj, t.om, t.gm⟩

theorem X1.assign {W d σ β e r β' x l sl np pos} (a : Ev W d σ β e r β') (hx : (⟨x, l, sl⟩ : Var) ∈ σ) (hl : l ≠ .free := by simp) (hg : sl ≠ .glob := by simp) (hs : ∀ env, swapsWith e (some (.Name (Str.ofString x) np)) pos.line env = pure false := by intro _; rfl) :
    X1 W d σ β (.Assign [.Name (Str.ofString x) np] e pos) (.next (σ.put x (.fz r.pv))) β' := .mk fun A env O M ba s g N E Q t q => by
  refine wpAny_Assign_Name (a.run A env O M ba s E _ t.st fun v h1 tk1 c1 k1 r1 => ?_) (hs env)
  exact act_store (t.step c1 k1) hx hl hg (r1.pr t.st.co) fun h2 tk2 t2 => q _ O M h2 tk2 t2 .next
theorem X1.ret {W d σ β e r β' pos} (a : Ev W d σ β e r β') : X1 W d σ β (.Return (some e) pos) (.ret r.pv) β' := .mk fun A env O M ba s g N E Q t q => by
  refine wpAny_Return_some (a.run A env O M ba s E _ t.st fun v h1 tk1 c1 k1 r1 => ?_)
  have t1 := t.step c1 k1
  refine q _ O M h1 tk1 ⟨⟨t1.st.co, t1.st.kind, t1.st.glob, t1.st.blt, t1.st.apart, t1.st.lm, t1.st.ns, t1.st.cm, t1.st.cc, t1.st.cinj, (fun _ h => nomatch h), (fun _ h => nomatch h)⟩, t1.keep, t1.gL, t1.gc, t1.go, t1.gb, t1.nm, t1.on, t1.oinj, t1.om, t1.gm⟩ (.ret (r1.pr t.st.co))
theorem X1.ite {W d σ β β1 β' t b b1 b2 o pos} (a : Et W d σ β t b β1) (h1 : b = true → Ex W d σ β1 b1 o β') (h2 : b = false → Ex W d σ β1 b2 o β') : X1 W d σ β (.If t b1 b2 pos) o β' := .mk fun A env O M ba s g N E Q t q => by
  refine wpAny_If (a.run A env O M ba s E _ t.st fun h1' tk1 c1 k1 => ?_)
  have t1 := t.step c1 k1
  cases b with
  | true => rw [if_pos rfl]; exact (h1 rfl).run A env O M ba _ g N E Q t1 fun f O2 M2 h2 tk2 t2 r2 => q f O2 M2 h2 tk2 t2 r2
  | false => rw [if_neg Bool.false_ne_true]; exact (h2 rfl).run A env O M ba _ g N E Q t1 fun f O2 M2 h2 tk2 t2 r2 => q f O2 M2 h2 tk2 t2 r2
theorem exec_Break_eq (pos : Pos) (env : Env) : exec (.Break pos) env = (do standAt pos; pure .brk) := rfl
theorem X1.break {W d σ β pos} : X1 W d σ β (.Break pos) (.brk σ) β := .mk fun A env O M ba s g N E Q t q => by
  rw [exec_Break_eq]
  exact wpAny_bind (wpAny_standAt (wpAny_pure (q _ O M s.heap s.toks t .brk)))

/-- steps of the account alone: facts dropped, a list no longer changed -/
noncomputable def Gh (σ τ : Vars) : Prop := ∀ W d A env O M ba β s g N, Act W d A env σ O M ba β s g N → ∃ O' M', Act W d A env τ O' M' ba β s g N
theorem Gh.refl (σ : Vars) : Gh σ σ := fun _ _ _ _ O M _ _ _ _ _ t => ⟨O, M, t⟩
theorem Gh.trans {σ τ υ : Vars} (a : Gh σ τ) (b : Gh τ υ) : Gh σ υ := fun W d A env O M ba β s g N t => by
  obtain ⟨O', M', t'⟩ := a W d A env O M ba β s g N t
  exact b W d A env O' M' ba β s g N t'
theorem Gh.sub {σ τ : Vars} (h : Forgets σ τ) : Gh σ τ := fun W d A env O M ba β s g N t => ⟨O, M, t.st.forget h, t.keep, t.gL, t.gc, t.go, t.gb, t.nm, t.on, t.oinj, t.om, t.gm⟩
theorem Ex.pre {W d σ τ β ss o β'} (h : Gh σ τ) (x : Ex W d τ β ss o β') : Ex W d σ β ss o β' := .mk fun A env O M ba s g N E Q t q => by
  obtain ⟨O', M', t'⟩ := h W d A env O M ba β s g N t
  exact x.run A env O' M' ba s g N E Q t' q
theorem Ex.post {W d σ τ υ β ss β'} (x : Ex W d σ β ss (.next τ) β') (h : Gh τ υ) : Ex W d σ β ss (.next υ) β' := .mk fun A env O M ba s g N E Q t q =>
  x.run A env O M ba s g N E Q t fun f O1 M1 h1 tk1 t1 r1 => by
    obtain ⟨O', M', t'⟩ := h W d A env O1 M1 ba β' _ g N t1
    cases r1
    exact q _ O' M' h1 tk1 t' .next
theorem X1.pre {W d σ τ β ss o β'} (h : Gh σ τ) (x : X1 W d τ β ss o β') : X1 W d σ β ss o β' := .mk fun A env O M ba s g N E Q t q => by
  obtain ⟨O', M', t'⟩ := h W d A env O M ba β s g N t
  exact x.run A env O' M' ba s g N E Q t' q
theorem X1.post {W d σ τ υ β ss β'} (x : X1 W d σ β ss (.next τ) β') (h : Gh τ υ) : X1 W d σ β ss (.next υ) β' := .mk fun A env O M ba s g N E Q t q =>
  x.run A env O M ba s g N E Q t fun f O1 M1 h1 tk1 t1 r1 => by
    obtain ⟨O', M', t'⟩ := h W d A env O1 M1 ba β' _ g N t1
    cases r1
    exact q _ O' M' h1 tk1 t' .next

theorem Gh.freeze {σ : Vars} {x : String} {l : Loc} {xs : List PyData} (hx : (⟨x, l, .own xs⟩ : Var) ∈ σ) : Gh σ (σ.put x (.fz (.d (.list xs)))) := fun W d A env O M ba β s g N t => by
  have y : SlotOk env s.heap M ba O x l (.own xs) := t.st.vars _ hx
  cases y with
  | @own a k vs _ hk hh hO haM ho hr =>
    have sub : ∀ m ∈ M.filter (· ≠ a), m ∈ M := fun m hm => (List.mem_filter.mp hm).1
    have le : Fz.le (frz s.heap M) (frz s.heap (M.filter (· ≠ a))) := frz_sub sub
    have mem : ∀ {m}, m ∈ M → m ≠ a → m ∈ M.filter (· ≠ a) := fun {m} h n => List.mem_filter.mpr ⟨h, by simpa using n⟩
    have hba : ba ≠ some a := t.st.co.book.not_list ho
    obtain ⟨m, nL⟩ := t.st.ns
    refine ⟨O.filter (·.2 ≠ a), M.filter (· ≠ a), ⟨t.st.co.sub sub fun b e => mem (by subst e; exact t.st.co.ba_mem) fun z => hba (z ▸ e), t.st.kind, t.st.glob, t.st.blt, t.st.apart, mem t.st.lm fun z => ns_not_list nL (z ▸ ho), t.st.ns,
      fun y c hc => mem (t.st.cm y c hc) fun z => let ⟨v, w⟩ := t.st.cc y c hc; cell_not_list w (z ▸ ho), t.st.cc, t.st.cinj, fun v hv => ?_, fun v hv => ?_⟩, t.keep, t.gL, t.gc, fun y b hb => t.go y b (List.mem_filter.mp hb).1, t.gb, fun n hn => mem (t.nm n hn) fun z => t.on x a hO (z ▸ hn), fun y b hb => t.on y b (List.mem_filter.mp hb).1,
      fun y z b h1 h2 => t.oinj y z b (List.mem_filter.mp h1).1 (List.mem_filter.mp h2).1, fun y b hb => mem (t.om y b (List.mem_filter.mp hb).1) (by simpa using (List.mem_filter.mp hb).2), fun b o e hb => t.gm b o e (sub b hb)⟩
    · rcases Vars.mem_put hv with ⟨u, hu, e, rfl⟩ | ⟨hu, _⟩
      · have z := t.st.names _ hx; exact z
      · exact t.st.names _ hu
    · have new : PR (frz s.heap (M.filter (· ≠ a))) ba (.ref a) (.d (.list xs)) := .d (.list (frz_some.mpr ⟨fun z => by simpa using (List.mem_filter.mp z).2, ho⟩) rfl rfl (hr.mono le))
      rcases Vars.mem_put hv with ⟨u, hu, e, rfl⟩ | ⟨hu, hne⟩
      · obtain ⟨un, ul, us⟩ := u
        cases e
        have hu' : SlotOk env s.heap M ba O un ul us := t.st.vars _ hu
        have hkk : Kind env (Str.ofString un) ul ∧ Has env s.heap (Str.ofString un) (.ref a) ul := by
          have hl' : (l = .loc ∧ ul = .loc) ∨ (l ≠ .loc ∧ ul ≠ .loc) ∨ us = .glob ∨ (l = .loc ∧ ul ≠ .loc) ∨ (l ≠ .loc ∧ ul = .loc) := by
            cases l <;> cases ul <;> simp
          have kg : us = .glob ∨ Kind env (Str.ofString un) ul := by by_cases z : us = .glob; exact .inl z; exact .inr (hu'.kind z)
          rcases kg with z | kk
          · subst z
            cases hu' with
            | glob gk =>
              exfalso
              cases l with
              | loc => rw [show env.kindOf (Str.ofString un) = some .local from hk] at gk; cases gk
              | cell => have := hk.1; rw [gk] at this; cases this
              | free => rcases hk.1 with z | z <;> (rw [gk] at z; cases z)
          · refine ⟨kk, ?_⟩
            cases l with
            | loc =>
              cases ul with
              | loc => exact hh
              | cell => have h1 := kk.1; rw [show env.kindOf (Str.ofString un) = some .local from hk] at h1; cases h1
              | free => have h1 := kk.1; rw [show env.kindOf (Str.ofString un) = some .local from hk] at h1; rcases h1 with h1 | h1 <;> cases h1
            | cell =>
              cases ul with
              | loc => have h1 := hk.1; rw [show env.kindOf (Str.ofString un) = some .local from kk] at h1; cases h1
              | cell => exact hh
              | free => exact hh
            | free =>
              cases ul with
              | loc => have h1 := hk.1; rw [show env.kindOf (Str.ofString un) = some .local from kk] at h1; rcases h1 with h1 | h1 <;> cases h1
              | cell => exact hh
              | free => exact hh
        exact .fz hkk.1 hkk.2 new
      · obtain ⟨vn, vl, vs'⟩ := v
        have hu' : SlotOk env s.heap M ba O vn vl vs' := t.st.vars _ hu
        show SlotOk env s.heap (M.filter (· ≠ a)) ba (O.filter (·.2 ≠ a)) vn vl vs'
        cases hu' with
        | unb q => exact .unb q
        | fz q r w => exact .fz q r (w.mono le)
        | @own b _ _ _ q r w z e f =>
          have hbne : b ≠ a := fun zz => hne (t.oinj vn x a (zz ▸ w) hO)
          exact .own q r (List.mem_filter.mpr ⟨w, by simpa using hbne⟩) (mem z hbne) e (f.mono le)
        | glob q => exact .glob q
end
end Sw

namespace Sw
section
/-- an iterator that is done with need not be hidden any more -/
theorem St.drop {W d A env σ O M ba β} {s : Shared} {I : Addr} (t : St W d A env σ O M ba β s) {o : Obj} {vs : Array Value} (ho : s.heap.get? I = some o) (hd : o.data = .fields vs) {h' : Heap} (tk : Nat)
    (k : ∀ b o, b ∉ [I] → s.heap.get? b = some o → h'.get? b = some o) (hI : I ∈ M) : St W d A env σ O (M.filter (· ≠ I)) ba β { s with heap := h', toks := tk } := by
  have k' : ∀ b o, b ≠ I → s.heap.get? b = some o → h'.get? b = some o := fun b o n e => k b o (by simpa using n) e
  have sub : ∀ m ∈ M.filter (· ≠ I), m ∈ M := fun m hm => (List.mem_filter.mp hm).1
  have mem : ∀ {m}, m ∈ M → m ≠ I → m ∈ M.filter (· ≠ I) := fun {m} h n => List.mem_filter.mpr ⟨h, by simpa using n⟩
  have ne : ∀ {m}, m ∈ M.filter (· ≠ I) → m ≠ I := fun {m} h => by simpa using (List.mem_filter.mp h).2
  have hbI : ba ≠ some I := by
    rintro rfl
    obtain ⟨_, g, m, _⟩ := t.co.book
    obtain ⟨o', es, ep, e', _, d', _⟩ := m
    rw [ho] at e'; cases e'; rw [hd] at d'; cases d'
  have nsI : ∀ {a m}, s.heap.Ns a m → a ≠ I := fun {a m} n z => by
    obtain ⟨o', es, ep, e, d, _⟩ := n; subst z; rw [ho] at e; cases e; rw [hd] at d; cases d
  have cellI : ∀ {a w}, s.heap.IsCell a w → a ≠ I := fun {a w} n z => by
    obtain ⟨o', e, d⟩ := n; subst z; rw [ho] at e; cases e; rw [hd] at d; cases d
  have listI : ∀ {a vs' k}, s.heap.get? a = some (lobj vs' k) → a ≠ I := fun {a vs' k} e z => by subst z; rw [ho] at e; cases e; cases hd
  have hI0 : ∀ b o, W.h0.get? b = some o → b ≠ I := fun b o e z => (t.co.base b o e).2 (z ▸ hI)
  have le : Fz.le (frz s.heap M) (frz h' (M.filter (· ≠ I))) := fun b o e => by
    obtain ⟨x, y⟩ := frz_some.mp e
    exact frz_some.mpr ⟨fun z => x (sub b z), k' b o (fun z => x (z ▸ hI)) y⟩
  have ns' : ∀ {a m}, s.heap.Ns a m → h'.Ns a m := fun {a m} n => n.at' fun o e => k' a o (nsI n) e
  have cell' : ∀ {a w}, s.heap.IsCell a w → h'.IsCell a w := fun {a w} y => let ⟨o, p, q⟩ := y; ⟨o, k' a o (cellI y) p, q⟩
  have c' : Co W d A (M.filter (· ≠ I)) ba β { s with heap := h', toks := tk } := ⟨t.co.hand, t.co.room, t.co.units, fun b o e => ⟨k' b o (hI0 b o e) (t.co.base b o e).1, fun z => (t.co.base b o e).2 (sub b z)⟩,
    fun m hm => by obtain ⟨o, e⟩ := t.co.live m (sub m hm); exact ⟨o, k' m o (ne hm) e⟩,
    by
      have b := t.co.book
      cases ba with
      | none => trivial
      | some a =>
        obtain ⟨hm, g, ⟨o, es, ep, ho', r⟩, q⟩ := b
        have hne : a ≠ I := fun z => hbI (by rw [z])
        exact ⟨mem hm hne, g, ⟨o, es, ep, k' a o hne ho', r⟩, q⟩⟩
  refine ⟨c', t.kind, t.glob, t.blt, t.apart, mem t.lm (let ⟨m, n⟩ := t.ns; nsI n), let ⟨m, n⟩ := t.ns; ⟨m, ns' n⟩, fun x c hc => mem (t.cm x c hc) (let ⟨v, y⟩ := t.cc x c hc; cellI y), fun x c hc => let ⟨v, y⟩ := t.cc x c hc; ⟨v, cell' y⟩, t.cinj, t.names, fun ⟨vn, vl, vs⟩ hv => ?_⟩
  have y : SlotOk env s.heap M ba O vn vl vs := t.vars _ hv
  show SlotOk env h' (M.filter (· ≠ I)) ba O vn vl vs
  have has : ∀ {v}, Has env s.heap (Str.ofString vn) v vl → Has env h' (Str.ofString vn) v vl := fun {v} z => by
    cases vl with
    | loc => obtain ⟨m2, n2, e2⟩ := z; exact ⟨m2, ns' n2, e2⟩
    | cell => obtain ⟨c2, e, z⟩ := z; exact ⟨c2, e, cell' z⟩
    | free => obtain ⟨c2, e, z⟩ := z; exact ⟨c2, e, cell' z⟩
  cases y with
  | unb a => exact .unb a
  | fz a b c => exact .fz a (has b) (c.mono le)
  | own a b c d e f => exact .own a (has b) c (mem d (listI e)) (k' _ _ (listI e) e) (f.mono le)
  | glob a => exact .glob a

theorem St.dropG {W d A env σ O M ba β} {s : Shared} {I : Addr} (t : St W d A env σ O M ba β s) {h' : Heap} (tk : Nat)
    (k : ∀ b o, b ≠ I → s.heap.get? b = some o → h'.get? b = some o) (hI : I ∈ M) (hL : env.locals ≠ I) (hcI : ∀ x c, env.cells.lookup x = some c → c ≠ I) (hO : ∀ x a, (x, a) ∈ O → a ≠ I) (hb : ba ≠ some I) :
    St W d A env σ O (M.filter (· ≠ I)) ba β { s with heap := h', toks := tk } := by
  have k' := k
  have sub : ∀ m ∈ M.filter (· ≠ I), m ∈ M := fun m hm => (List.mem_filter.mp hm).1
  have mem : ∀ {m}, m ∈ M → m ≠ I → m ∈ M.filter (· ≠ I) := fun {m} h n => List.mem_filter.mpr ⟨h, by simpa using n⟩
  have ne : ∀ {m}, m ∈ M.filter (· ≠ I) → m ≠ I := fun {m} h => by simpa using (List.mem_filter.mp h).2
  have hI0 : ∀ b o, W.h0.get? b = some o → b ≠ I := fun b o e z => (t.co.base b o e).2 (z ▸ hI)
  have le : Fz.le (frz s.heap M) (frz h' (M.filter (· ≠ I))) := fun b o e => by
    obtain ⟨x, y⟩ := frz_some.mp e
    exact frz_some.mpr ⟨fun z => x (sub b z), k' b o (fun z => x (z ▸ hI)) y⟩
  have nsL : ∀ {m}, s.heap.Ns env.locals m → h'.Ns env.locals m := fun {m} n => n.at' fun o e => k' _ o hL e
  have cell' : ∀ {x a w}, env.cells.lookup x = some a → s.heap.IsCell a w → h'.IsCell a w := fun {x a w} hc y => let ⟨o, p, q⟩ := y; ⟨o, k' a o (hcI x a hc) p, q⟩
  have c' : Co W d A (M.filter (· ≠ I)) ba β { s with heap := h', toks := tk } := ⟨t.co.hand, t.co.room, t.co.units, fun b o e => ⟨k' b o (hI0 b o e) (t.co.base b o e).1, fun z => (t.co.base b o e).2 (sub b z)⟩,
    fun m hm => by obtain ⟨o, e⟩ := t.co.live m (sub m hm); exact ⟨o, k' m o (ne hm) e⟩,
    by
      have b := t.co.book
      cases ba with
      | none => trivial
      | some a =>
        obtain ⟨hm, g, ⟨o, es, ep, ho', r⟩, q⟩ := b
        have hne : a ≠ I := fun z => hb (by rw [z])
        exact ⟨mem hm hne, g, ⟨o, es, ep, k' a o hne ho', r⟩, q⟩⟩
  refine ⟨c', t.kind, t.glob, t.blt, t.apart, mem t.lm hL, let ⟨m, n⟩ := t.ns; ⟨m, nsL n⟩, fun x c hc => mem (t.cm x c hc) (hcI x c hc), fun x c hc => let ⟨v, y⟩ := t.cc x c hc; ⟨v, cell' hc y⟩, t.cinj, t.names, fun ⟨vn, vl, vs⟩ hv => ?_⟩
  have y : SlotOk env s.heap M ba O vn vl vs := t.vars _ hv
  show SlotOk env h' (M.filter (· ≠ I)) ba O vn vl vs
  have has : ∀ {v}, Has env s.heap (Str.ofString vn) v vl → Has env h' (Str.ofString vn) v vl := fun {v} z => by
    cases vl with
    | loc => obtain ⟨m2, n2, e2⟩ := z; exact ⟨m2, nsL n2, e2⟩
    | cell => obtain ⟨c2, e, z⟩ := z; exact ⟨c2, e, cell' e z⟩
    | free => obtain ⟨c2, e, z⟩ := z; exact ⟨c2, e, cell' e z⟩
  cases y with
  | unb a => exact .unb a
  | fz a b c => exact .fz a (has b) (c.mono le)
  | own a b c d e f => exact .own a (has b) c (mem d (hO _ _ c)) (k' _ _ (hO _ _ c) e) (f.mono le)
  | glob a => exact .glob a

/-- all but what the frame's statements may touch -/
noncomputable def guard (h : Heap) (env : Env) (O : List (String × Addr)) (ba : Option Addr) : Fz := by
  classical
  exact fun b => if b = env.locals ∨ (∃ x, env.cells.lookup x = some b) ∨ (∃ x, (x, b) ∈ O) ∨ ba = some b then none else h.get? b
theorem guard_some {h env O ba b o} (e : guard h env O ba b = some o) : h.get? b = some o ∧ b ≠ env.locals ∧ (∀ x, env.cells.lookup x ≠ some b) ∧ (∀ x, (x, b) ∉ O) ∧ ba ≠ some b := by
  unfold guard at e
  split at e
  · cases e
  · rename_i z
    simp only [not_or, not_exists] at z
    exact ⟨e, z.1, z.2.1, z.2.2.1, z.2.2.2⟩
theorem guard_of {h : Heap} {env O ba b o} (e : h.get? b = some o) (h1 : b ≠ env.locals) (h2 : ∀ x, env.cells.lookup x ≠ some b) (h3 : ∀ x, (x, b) ∉ O) (h4 : ba ≠ some b) : guard h env O ba b = some o := by
  unfold guard
  rw [if_neg]
  · exact e
  · rintro (z | ⟨x, z⟩ | ⟨x, z⟩ | z)
    · exact h1 z
    · exact h2 x z
    · exact h3 x z
    · exact h4 z
theorem guard_none {h env O ba b} (z : b = env.locals ∨ (∃ x, env.cells.lookup x = some b) ∨ (∃ x, (x, b) ∈ O) ∨ ba = some b) : guard h env O ba b = none := by
  unfold guard; rw [if_pos z]

/-- under a guard: all that is hidden and no place of the frame's own -/
noncomputable def guardN (h : Heap) (env : Env) (O : List (String × Addr)) (ba : Option Addr) (N M : List Addr) : List Addr := by
  classical
  exact N ++ M.filter fun b => decide (guard h env O ba b ≠ none)
theorem guardN_sub {h env O ba N M} (hn : ∀ m ∈ N, m ∈ M) : ∀ m ∈ guardN h env O ba N M, m ∈ M := fun m hm => (List.mem_append.mp hm).elim (hn m) fun h => (List.mem_filter.mp h).1
theorem guardN_of {h env O ba N M b o} (hb : b ∈ M) (e : guard h env O ba b = some o) : b ∈ guardN h env O ba N M := List.mem_append_right _ (List.mem_filter.mpr ⟨hb, by simp [e]⟩)
theorem Act.regrow {W d A env σ O M ba β g N} {s : Shared} (t : Act W d A env σ O M ba β s g N) :
    Act W d A env σ O M ba β s (guard s.heap env O ba) (guardN s.heap env O ba N M) ∧ Fz.le g (guard s.heap env O ba) :=
  ⟨⟨t.st, fun b o e => (guard_some e).1, guard_none (.inl rfl), fun x c hc => guard_none (.inr (.inl ⟨x, hc⟩)), fun x a h => guard_none (.inr (.inr (.inl ⟨x, h⟩))), fun a e => guard_none (.inr (.inr (.inr e))), guardN_sub t.nm,
    fun x a h z => (List.mem_append.mp z).elim (t.on x a h) fun z => by
      have := (List.mem_filter.mp z).2
      rw [guard_none (.inr (.inr (.inl ⟨x, h⟩)))] at this; simp at this, t.oinj, t.om, fun b o e hb => guardN_of hb e⟩,
   fun b o e => guard_of (t.keep b o e) (fun z => by rw [z, t.gL] at e; cases e) (fun x z => by rw [t.gc x b z] at e; cases e) (fun x z => by rw [t.go x b z] at e; cases e) (fun z => by rw [t.gb b z] at e; cases e)⟩
theorem Act.back {W d A env σ O M ba β g G N N'} {s : Shared} (t : Act W d A env σ O M ba β s G N') (le : Fz.le g G) (hn : ∀ m ∈ N, m ∈ N') (hN : ∀ b o, g b = some o → b ∈ N' → b ∈ N) : Act W d A env σ O M ba β s g N :=
  have no : ∀ {b}, G b = none → g b = none := fun {b} e => by
    cases z : g b with
    | none => rfl
    | some o => rw [le b o z] at e; cases e
  ⟨t.st, fun b o e => t.keep b o (le b o e), no t.gL, fun x c hc => no (t.gc x c hc), fun x a h => no (t.go x a h), fun a e => no (t.gb a e), fun m hm => t.nm m (hn m hm), fun x a h z => t.on x a h (hn a z), t.oinj, t.om, fun b o e hb => hN b o e (t.gm b o (le b o e) hb)⟩

theorem act_assign {W d A env σ O M ba β g N} {s : Shared} (t : Act W d A env σ O M ba β s g N) {e : Expr} {p : PV} {σ' : Vars} (h : SetT σ e p σ') {v : Value} (hv : PR (frz s.heap M) ba v p)
    {E : Value → Shared → Prop} {Q : Unit → Shared → Prop} (q : ∀ h' tk, Act W d A env σ' O M ba β { s with heap := h', toks := tk } g N → Q () { s with heap := h', toks := tk }) :
    wpAny W.md A (assign e env v) Q E s := by
  classical
  refine wp_assign (X := M.filter fun b => decide (g b = none)) t.st h ⟨List.mem_filter.mpr ⟨t.st.lm, by simpa using t.gL⟩, fun v _ _ c hc => List.mem_filter.mpr ⟨t.st.cm _ c hc, by simpa using t.gc _ c hc⟩⟩ (fun x hx => (List.mem_filter.mp hx).1) hv fun h1 tk1 t1 k1 => ?_
  refine q h1 tk1 ⟨t1, fun b o e => k1 b o (t.keep b o e) (fun z => ?_) (fun z => ?_), t.gL, t.gc, t.go, t.gb, t.nm, t.on, t.oinj, t.om, t.gm⟩
  · have := (List.mem_filter.mp z).2; simp [e] at this
  · rw [t.gb b z] at e; cases e

inductive FE where
  | done (σ : Vars)
  | broke (σ : Vars)
  | ret (p : PV)
inductive ForRun (W : Wd) (d : Nat) (target : Expr) (body : List Stmt) : Vars → Bk → List PV → FE → Bk → Prop
  | nil {σ β} : ForRun W d target body σ β [] (.done σ) β
  | cons {σ β p ps σ1 σ2 β1 e β'} : SetT σ target p σ1 → Ex W d σ1 β body (.next σ2) β1 → ForRun W d target body σ2 β1 ps e β' → ForRun W d target body σ β (p :: ps) e β'
  | brk {σ β p ps σ1 σ2 β1} : SetT σ target p σ1 → Ex W d σ1 β body (.brk σ2) β1 → ForRun W d target body σ β (p :: ps) (.broke σ2) β1
  | ret {σ β p ps σ1 q β1} : SetT σ target p σ1 → Ex W d σ1 β body (.ret q) β1 → ForRun W d target body σ β (p :: ps) (.ret q) β1

/-- what a loop's end leads to -/
noncomputable def FEnd (W : Wd) (d : Nat) (orelse : List Stmt) (β1 : Bk) (o : Fl) (β' : Bk) : FE → Prop
  | .done τ => Ex W d τ β1 orelse o β'
  | .broke τ => o = .next τ ∧ β' = β1
  | .ret p => o = .ret p ∧ β' = β1

theorem fields_not {h : Heap} {I : Addr} {o : Obj} {vs : Array Value} (ho : h.get? I = some o) (hd : o.data = .fields vs) : (∀ m, ¬ h.Ns I m) ∧ (∀ v, ¬ h.IsCell I v) ∧ (∀ vs k, h.get? I ≠ some (lobj vs k)) :=
  ⟨fun m n => (by obtain ⟨o', es, ep, e, d, _⟩ := n; rw [ho] at e; cases e; rw [hd] at d; cases d), fun v n => (by obtain ⟨o', e, d⟩ := n; rw [ho] at e; cases e; rw [hd] at d; cases d), fun vs k e => (by rw [ho] at e; cases e; cases hd)⟩
theorem fields_not_book {W ba β M} {h : Heap} (b : BookOk W ba β M h) {I : Addr} {o : Obj} {vs : Array Value} (ho : h.get? I = some o) (hd : o.data = .fields vs) : ba ≠ some I := by
  rintro rfl
  obtain ⟨_, g, m, _⟩ := b
  obtain ⟨o', es, ep, e', _, d', _⟩ := m
  rw [ho] at e'; cases e'; rw [hd] at d'; cases d'

theorem for_run {W : Wd} {d : Nat} {target : Expr} {body orelse : List Stmt} {e : FE} {β1 : Bk} {o : Fl} {β' : Bk} (hend : FEnd W d orelse β1 o β' e) {all : List PV} {A : Around} {env : Env} {I : Addr} {N : List Addr} {g f : Fz} {ba : Option Addr} {fp : List Addr} {Stt : Nat → Heap → Prop}
    (wk : Walk W A f ba all I fp Stt) (hgI : g I = none) (hNI : I ∉ N) {R : Result → Shared → Prop} :
    ∀ {items : List PV} {σ : Vars} {β : Bk}, ForRun W d target body σ β items e β1 → ∀ (i : Nat) (s : Shared) (O : List (String × Addr)) (M : List Addr), items = all.drop i → i ≤ all.length → Act W d A env σ O M ba β s g (I :: N) → Stt i s.heap → Fz.le f (frz s.heap M) →
      (∀ f O M h' tk, Act W d A env o.vars O M ba β' { s with heap := h', toks := tk } g N → FlR h' M ba f o → R (.ok f) { s with heap := h', toks := tk }) →
      codeAny W.md A (.forLoop target (.ref I) body orelse env) R s := by
  have drop : ∀ {σ O M β} {s : Shared} {h1 : Heap} {tk1 : Nat} {ob : Obj} {vs : Array Value}, Act W d A env σ O M ba β s g (I :: N) → s.heap.get? I = some ob → ob.data = .fields vs → (∀ b o, b ∉ [I] → s.heap.get? b = some o → h1.get? b = some o) →
      Act W d A env σ O (M.filter (· ≠ I)) ba β { s with heap := h1, toks := tk1 } g N := fun {σ O M β s h1 tk1 ob vs} t ho hd k =>
    have mem : ∀ {m}, m ∈ M → m ≠ I → m ∈ M.filter (· ≠ I) := fun {m} h n => List.mem_filter.mpr ⟨h, by simpa using n⟩
    ⟨t.st.drop ho hd tk1 k (t.nm I List.mem_cons_self), fun b o e => k b o (fun z => by rw [List.mem_singleton.mp z, hgI] at e; cases e) (t.keep b o e), t.gL, t.gc, t.go, t.gb, fun m hm => mem (t.nm m (List.mem_cons_of_mem _ hm)) fun z => hNI (z ▸ hm), fun x a h z => t.on x a h (List.mem_cons_of_mem _ z), t.oinj,
      fun x a h => mem (t.om x a h) fun z => t.on x a h (z ▸ List.mem_cons_self), fun b o e hb => by
        rcases List.mem_cons.mp (t.gm b o e (List.mem_filter.mp hb).1) with z | z
        · rw [z, hgI] at e; cases e
        · exact z⟩
  have same : ∀ {σ O M β} {s : Shared}, Act W d A env σ O M ba β s g (I :: N) → ∀ {ob : Obj} {vs : Array Value}, s.heap.get? I = some ob → ob.data = .fields vs → Act W d A env σ O (M.filter (· ≠ I)) ba β s g N := fun {σ O M β s} t {ob vs} ho hd => drop (tk1 := s.toks) t ho hd fun b o _ e => e
  have turn : ∀ {σ σ1 : Vars} {β β2 : Bk} {pv : PV} {fl : Fl}, SetT σ target pv σ1 → Ex W d σ1 β body fl β2 → ∀ (i : Nat) (s : Shared) (O : List (String × Addr)) (M : List Addr), i < all.length → all[i]? = some pv → Act W d A env σ O M ba β s g (I :: N) → Stt i s.heap → Fz.le f (frz s.heap M) →
      (∀ fw O2 M2 h3 tk3 ob vs, Act W d A env fl.vars O2 M2 ba β2 { s with heap := h3, toks := tk3 } g (I :: N) → Stt (i + 1) h3 → Fz.le f (frz h3 M2) → FlR h3 M2 ba fw fl → h3.get? I = some ob → ob.data = .fields vs →
        match fw with | .next | .cont => codeAny W.md A (.forLoop target (.ref I) body orelse env) R { s with heap := h3, toks := tk3 } | .brk => R (.ok .next) { s with heap := h3, toks := tk3 } | .ret v => R (.ok (.ret v)) { s with heap := h3, toks := tk3 }) →
      codeAny W.md A (.forLoop target (.ref I) body orelse env) R s := by
    intro σ σ1 β β2 pv fl hset hbody i s O M hlt hpv t st fle K
    refine codeAny_of_tree ?_
    show wpAny _ A ((forTurn target (.ref I) body orelse env).onRaise (fun x => do noteFrame x env; theTreesLotGoes x)) _ _ s
    refine wpAny_noted ?_
    simp only [forTurn]
    refine wpAny_bind (wpAny_standAt (wpAny_bind (wpAny_onRaise ?_)))
    refine wk.ws.item i s _ _ hlt st fun v h1 tk1 hP st1 hk1 => ?_
    obtain ⟨q, hq, hv⟩ := hP
    rw [hpv] at hq; cases hq
    obtain ⟨ob, nn, vs, ho, hc, hd, hp⟩ := wk.ob _ _ st
    obtain ⟨o1, n1, vs1, ho1, hc1, hd1, hp1⟩ := wk.ob _ _ st1
    have hIM := t.nm I List.mem_cons_self
    have t1 : Act W d A env σ O M ba β { s with heap := h1, toks := tk1 } g (I :: N) := ⟨t.st.but hIM ho hd tk1 hk1 ⟨o1, ho1⟩, fun b o e => hk1 b o (fun z => by rw [List.mem_singleton.mp z, hgI] at e; cases e) (t.keep b o e), t.gL, t.gc, t.go, t.gb, t.nm, t.on, t.oinj, t.om, t.gm⟩
    have fle1 : Fz.le f (frz h1 M) := fun b o e => by
      obtain ⟨x, y⟩ := frz_some.mp (fle b o e)
      exact frz_some.mpr ⟨x, hk1 b o (fun z => x (by rw [List.mem_singleton.mp z]; exact hIM)) y⟩
    refine wpAny_bind (letOwned ho1 hc1 hd1 hp1 ?_)
    obtain ⟨tg, leg⟩ := t1.regrow
    have hIb : ba ≠ some I := fields_not_book t1.st.co.book ho1 hd1
    obtain ⟨fn1, fn2, fn3⟩ := fields_not ho1 hd1
    have gI : guard h1 env O ba I = some o1 := guard_of ho1 (fun z => by obtain ⟨m, n⟩ := t1.st.ns; rw [← z] at n; exact fn1 m n) (fun x z => by obtain ⟨w, y⟩ := t1.st.cc x I z; exact fn2 w y) (fun x z => t.on x I z List.mem_cons_self) hIb
    have gF : ∀ b o, f b = some o → guard h1 env O ba b = some o := fun b o e => by
      obtain ⟨x, y⟩ := frz_some.mp (fle1 b o e)
      exact guard_of y (fun z => x (z ▸ t1.st.lm)) (fun w z => x (t1.st.cm w b z)) (fun w z => x (t1.om w b z)) (t1.st.co.ba_not x)
    refine wpAny_bind (act_assign tg hset (hv.mono fle1) fun h2 tk2 t2 => ?_)
    refine wpAny_bind (hbody.run A env O M ba _ _ _ _ _ t2 fun fw O3 M3 h3 tk3 t3 r3 => ?_)
    have hI3 : h3.get? I = some o1 := t3.keep I o1 gI
    have st3 : Stt (i + 1) h3 := by
      have eq : ∀ b ∈ fp, ∀ o, h1.get? b = some o → h3.get? b = some o := fun b hb o e => by
        rcases wk.fpo b hb with rfl | ⟨o', e'⟩
        · rw [ho1] at e; cases e; exact hI3
        · have := gF b o' e'
          rw [(guard_some this).1] at e; cases e
          exact t3.keep b _ this
      exact wk.ws.frame _ _ _ st1 eq
    have fle3 : Fz.le f (frz h3 M3) := fun b o e => by
      have e1 := gF b o e
      refine frz_some.mpr ⟨fun z => ?_, t3.keep b o e1⟩
      have := t3.gm b o e1 z
      have hbM := guardN_sub t1.nm b this
      exact (frz_some.mp (fle1 b o e)).1 hbM
    have t3' : Act W d A env fl.vars O3 M3 ba β2 { s with heap := h3, toks := tk3 } g (I :: N) := t3.back leg (fun m hm => List.mem_append_left _ hm) fun b o e hb => t1.gm b o e (guardN_sub t1.nm b hb)
    have := K fw O3 M3 h3 tk3 o1 vs1 t3' st3 fle3 r3 hI3 hd1
    cases fw with
    | next => exact wpAny_pure ⟨rfl, this⟩
    | cont => exact wpAny_pure ⟨rfl, this⟩
    | brk => exact wpAny_pure this
    | ret v => exact wpAny_pure this
  have facts : ∀ {pv : PV} {ps : List PV} {i : Nat}, pv :: ps = all.drop i → i < all.length ∧ all[i]? = some pv ∧ ps = all.drop (i + 1) := fun {pv ps i} hit => by
    refine ⟨?_, ?_, ?_⟩
    · have := congrArg List.length hit
      simp at this; omega
    · have := congrArg (fun l => l[0]?) hit
      simpa using this.symm
    · have := congrArg List.tail hit
      simpa using this
  intro items σ β r
  induction r with
  | @nil σ β =>
    intro i s O M hit hi t st fle fin
    have hi' : i = all.length := by
      have := congrArg List.length hit
      simp at this; omega
    subst hi'
    refine codeAny_of_tree ?_
    show wpAny _ A ((forTurn target (.ref I) body orelse env).onRaise (fun x => do noteFrame x env; theTreesLotGoes x)) _ _ s
    refine wpAny_noted ?_
    simp only [forTurn]
    refine wpAny_bind (wpAny_standAt (wpAny_bind (wpAny_onRaise ?_)))
    obtain ⟨ob, nn, vs, ho, hc, hd, hp⟩ := wk.ob _ _ st
    refine wk.ws.done s _ _ st fun h1 tk1 hk1 => wpAny_pure ?_
    refine ⟨rfl, codeAny_block ?_⟩
    exact hend.run A env O _ ba _ g N _ _ (drop t ho hd hk1) fun f O2 M2 h2 tk2 t2 r2 => fin f O2 M2 h2 tk2 t2 r2
  | @cons σ β pv ps σ1 σ2 β2 e β1 hset hbody _ ih =>
    intro i s O M hit hi t st fle fin
    obtain ⟨hlt, hpv, hps⟩ := facts hit
    refine turn hset hbody i s O M hlt hpv t st fle fun fw O3 M3 h3 tk3 ob vs t3 st3 fle3 r3 ho hd => ?_
    cases r3
    exact ih hend (i + 1) _ O3 M3 hps hlt t3 st3 fle3 fun f O2 M2 h2 tk2 t2 r2 => fin f O2 M2 h2 tk2 t2 r2
  | @brk σ β pv ps σ1 σ2 β1 hset hbody =>
    intro i s O M hit hi t st fle fin
    obtain ⟨hlt, hpv, hps⟩ := facts hit
    refine turn hset hbody i s O M hlt hpv t st fle fun fw O3 M3 h3 tk3 ob vs t3 st3 fle3 r3 ho hd => ?_
    cases r3
    obtain ⟨e1, e2⟩ := (hend : o = .next σ2 ∧ β' = β1)
    subst e1; subst e2
    exact fin .next O3 _ h3 tk3 (same t3 ho hd) .next
  | @ret σ β pv ps σ1 q β1 hset hbody =>
    intro i s O M hit hi t st fle fin
    obtain ⟨hlt, hpv, hps⟩ := facts hit
    refine turn hset hbody i s O M hlt hpv t st fle fun fw O3 M3 h3 tk3 ob vs t3 st3 fle3 r3 ho hd => ?_
    cases r3 with
    | ret hr =>
      obtain ⟨e1, e2⟩ := (hend : o = .ret q ∧ β' = β1)
      subst e1; subst e2
      exact fin _ O3 _ h3 tk3 (same t3 ho hd) (.ret (hr.mono (frz_sub fun a ha => (List.mem_filter.mp ha).1)))
end
end Sw

namespace Sw
section
theorem X1.for {W d σ β target iter body orelse pos r items β1 e β2 o β'} (a : Ev W d σ β iter r β1) (hi : Items W r.pv items) (hr : ForRun W d target body σ β1 items e β2) (hend : FEnd W d orelse β2 o β' e)
    (hs : ∀ env x, foldedSetIterable iter env x = pure x := by intro _ _; rfl) : X1 W d σ β (.For target iter body orelse pos) o β' := .mk fun A env O M ba s g N E Q t q => by
  refine wpAny_For (a.run A env O M ba s E _ t.st fun v h1 tk1 c1 k1 r1 => ?_) (hs env)
  have t1 := t.step c1 k1
  refine hi d A M ba β1 _ v E _ c1 (r1.pr t.st.co) fun I fp Stt h2 tk2 c2 k2 hI hI2 wk st => ?_
  have hgI : g I = none := by
    cases e : g I with
    | none => rfl
    | some o => have := t1.keep I o e; rw [hI] at this; cases this
  have hIM : I ∉ M := c1.fresh hI
  have bam : ∀ a, ba = some a → a ∈ M := fun a e => by subst e; exact t.st.co.ba_mem
  have st2 : St W d A env σ O (I :: M) ba β1 { s with heap := h2, toks := tk2 } := t1.st.hide (N := [I]) c2 (Kp.of_all k2) (fun m hm => by rw [List.mem_singleton.mp hm]; exact hI) (fun m hm => by rw [List.mem_singleton.mp hm]; exact hI2)
  have t2 : Act W d A env σ O (I :: M) ba β1 { s with heap := h2, toks := tk2 } g (I :: N) := ⟨st2, fun b o e => k2 b o (t1.keep b o e), t1.gL, t1.gc, t1.go, t1.gb, fun m hm => by
      rcases List.mem_cons.mp hm with rfl | hm
      · exact List.mem_cons_self
      · exact List.mem_cons_of_mem _ (t1.nm m hm), fun x a h z => by
      rcases List.mem_cons.mp z with rfl | z
      · exact hIM (t1.om x _ h)
      · exact t1.on x a h z, t1.oinj, fun x a h => List.mem_cons_of_mem _ (t1.om x a h), fun b o e hb => by
      rcases List.mem_cons.mp hb with rfl | hb
      · exact List.mem_cons_self
      · exact List.mem_cons_of_mem _ (t1.gm b o e hb)⟩
  have fle : Fz.le (frz h1 M) (frz h2 (I :: M)) := frz_hide (N := [I]) (Kp.of_all k2) bam fun m hm => by rw [List.mem_singleton.mp hm]; exact hI
  exact for_run hend wk hgI (fun z => hIM (t1.nm I z)) hr 0 _ O (I :: M) rfl (Nat.zero_le _) t2 st fle fun f O2 M2 h3 tk3 t3 r3 => q f O2 M2 h3 tk3 t3 r3

/-- a new list becomes the frame's own -/
theorem act_own {W d A env σ O M ba β g N} {s : Shared} {h1 : Heap} {tk1 : Nat} {β1 : Bk} (t : Act W d A env σ O M ba β s g N) (c1 : Co W d A M ba β1 { s with heap := h1, toks := tk1 }) (k1 : Kp ba s.heap h1) {x : String} {l : Loc} {sl : Slot} (hx : (⟨x, l, sl⟩ : Var) ∈ σ) (hl : l ≠ .free) (hg : sl ≠ .glob)
    {a : Addr} {vs : Array Value} {k : Nat} {xs : List PyData} (hn : s.heap.get? a = none) (ho : h1.get? a = some (lobj vs k)) {H : List Addr} (hH : ∀ n ∈ H, s.heap.get? n = none ∧ ∃ o, h1.get? n = some o) (hr : VRs (frz h1 (a :: (H ++ M))) vs.toList xs)
    {E : Value → Shared → Prop} {Q : Unit → Shared → Prop} (q : ∀ h' tk, Act W d A env (σ.put x (.own xs)) ((x, a) :: O) (a :: (H ++ M)) ba β1 { s with heap := h', toks := tk } g N → (∀ b o, h1.get? b = some o → b ∉ M → h'.get? b = some o) → Q () { s with heap := h', toks := tk }) :
    wpAny W.md A (storeName env (Str.ofString x) (.ref a)) Q E { s with heap := h1, toks := tk1 } := by
  have hga : g a = none := by
    cases e : g a with
    | none => rfl
    | some o => have := t.keep a o e; rw [hn] at this; cases this
  have haM : a ∉ M := t.st.co.fresh hn
  have st2 : St W d A env σ O (a :: (H ++ M)) ba β1 { s with heap := h1, toks := tk1 } := t.st.hide (N := a :: H) c1 k1 (fun m hm => (List.mem_cons.mp hm).elim (fun z => by rw [z]; exact hn) fun z => (hH m z).1) (fun m hm => (List.mem_cons.mp hm).elim (fun z => by rw [z]; exact ⟨_, ho⟩) fun z => (hH m z).2)
  have st3 : St W d A env σ ((x, a) :: O) (a :: (H ++ M)) ba β1 { s with heap := h1, toks := tk1 } := ⟨st2.co, st2.kind, st2.glob, st2.blt, st2.apart, st2.lm, st2.ns, st2.cm, st2.cc, st2.cinj, st2.names, fun ⟨vn, vl, vs'⟩ hv => by
    have y : SlotOk env h1 (a :: (H ++ M)) ba O vn vl vs' := st2.vars _ hv
    show SlotOk env h1 (a :: (H ++ M)) ba ((x, a) :: O) vn vl vs'
    cases y with
    | unb q => exact .unb q
    | fz q r w => exact .fz q r w
    | own q r w z e f => exact .own q r (List.mem_cons_of_mem _ w) z e f
    | glob q => exact .glob q⟩
  refine wp_storeG st3 hx hl hg (ns := .own xs) (fun h2 b hs hb le l' hk hh => .own hk hh List.mem_cons_self List.mem_cons_self ((hs.2 a fun z => ?_).trans ho) (hr.mono le)) fun h2 tk2 b t2 sb pl => ?_
  · rcases hb with rfl | ⟨y, hy⟩
    · obtain ⟨m, n⟩ := st3.ns; exact ns_not_list n (z ▸ ho)
    · obtain ⟨w, y'⟩ := st3.cc y b hy; exact cell_not_list y' (z ▸ ho)
  · have hgb : g b = none := by
      cases l with
      | loc => exact (show b = env.locals from pl) ▸ t.gL
      | cell => exact t.gc _ _ pl
      | free => exact absurd rfl hl
    have hbM : b ∈ M := by
      cases l with
      | loc => exact (show b = env.locals from pl) ▸ t.st.lm
      | cell => exact t.st.cm _ _ pl
      | free => exact absurd rfl hl
    have t1 := t.step c1 k1
    refine q h2 tk2 ⟨t2, fun b' o e => (sb.2 b' fun z => (by subst z; rw [hgb] at e; cases e)).trans (t1.keep b' o e), t.gL, t.gc, fun y b' h => ?_, t.gb, fun m hm => List.mem_cons_of_mem _ (List.mem_append_right _ (t.nm m hm)), fun y b' h z => ?_, fun y z b' h1 h2 => ?_, fun y b' h => ?_, fun b' o e hb => ?_⟩ fun b' o e hb => (sb.2 b' fun z => hb (z ▸ hbM)).trans e
    · rcases List.mem_cons.mp h with e | h
      · cases e; exact hga
      · exact t.go y b' h
    · rcases List.mem_cons.mp h with e | h
      · cases e; exact haM (t.nm _ z)
      · exact t.on y b' h z
    · rcases List.mem_cons.mp h1 with e | h1 <;> rcases List.mem_cons.mp h2 with e' | h2
      · cases e; cases e'; rfl
      · cases e; exact absurd (t.om _ _ h2) haM
      · cases e'; exact absurd (t.om _ _ h1) haM
      · exact t.oinj y z b' h1 h2
    · rcases List.mem_cons.mp h with e | h
      · cases e; exact List.mem_cons_self
      · exact List.mem_cons_of_mem _ (List.mem_append_right _ (t.om y b' h))
    · rcases List.mem_cons.mp hb with rfl | hb
      · rw [hga] at e; cases e
      · rcases List.mem_append.mp hb with hb | hb
        · have := t.keep b' o e; rw [(hH b' hb).1] at this; cases this
        · exact t.gm b' o e hb

theorem X1.assignNew {W d σ β e xs β' x l sl np pos} (a : Ev W d σ β e (.new xs) β') (hx : (⟨x, l, sl⟩ : Var) ∈ σ) (hl : l ≠ .free := by simp) (hg : sl ≠ .glob := by simp) (hs : ∀ env, swapsWith e (some (.Name (Str.ofString x) np)) pos.line env = pure false := by intro _; rfl) :
    X1 W d σ β (.Assign [.Name (Str.ofString x) np] e pos) (.next (σ.put x (.own xs))) β' := .mk fun A env O M ba s g N E Q t q => by
  refine wpAny_Assign_Name (a.run A env O M ba s E _ t.st fun v h1 tk1 c1 k1 r1 => ?_) (hs env)
  cases r1 with
  | new hn ho hr => exact act_own (H := []) t c1 k1 hx hl hg hn ho (fun _ h => nomatch h) hr fun h2 tk2 t2 _ => q _ _ _ h2 tk2 t2 .next

/-- whether a comprehension's value goes to its name from within -/
theorem swaps_eq (elt : Expr) (gens : List Comprehension) (scope : Scope) (cp np : Pos) (x : Str) (line : Nat) (env : Env) : swapsWith (.ListComp elt gens scope cp) (some (.Name x np)) line env =
    pure (env.blockKind == .function && env.kindOf x == some .local && np.line == cp.line && !(scope.names.any fun (n, k) => n == x && (k == .local || k == .cell))) := rfl
theorem swaps_true {elt : Expr} {gens : List Comprehension} {scope : Scope} {cp np : Pos} {x : Str} {line : Nat} {env : Env} (hk : env.scope.kind = .function) (hl : env.kindOf x = some .local) (h1 : (np.line == cp.line) = true) (h2 : (scope.names.any fun (n, k) => n == x && (k == .local || k == .cell)) = false) :
    swapsWith (.ListComp elt gens scope cp) (some (.Name x np)) line env = pure true := by
  have hb : env.blockKind = .function := by unfold Env.blockKind; rw [hk]; rfl
  rw [swaps_eq, hb, hl, h1, h2]; rfl
theorem swaps_false {elt : Expr} {gens : List Comprehension} {scope : Scope} {cp np : Pos} {x : Str} {line : Nat} {env : Env} (hl : env.kindOf x = some .cell) :
    swapsWith (.ListComp elt gens scope cp) (some (.Name x np)) line env = pure false := by
  rw [swaps_eq, hl, show ((some NameKind.cell : Option NameKind) == some .local) = false from rfl, Bool.and_false, Bool.false_and, Bool.false_and]

theorem Act.dropG {W d A env σ O M ba β g N} {s : Shared} {I : Addr} (t : Act W d A env σ O M ba β s g N) {h' : Heap} (tk : Nat) (k : ∀ b o, b ≠ I → s.heap.get? b = some o → h'.get? b = some o) (hI : I ∈ M) (hL : env.locals ≠ I) (hcI : ∀ x c, env.cells.lookup x = some c → c ≠ I) (hO : ∀ x a, (x, a) ∈ O → a ≠ I) (hb : ba ≠ some I) (hg : g I = none) (hN : I ∉ N) :
    Act W d A env σ O (M.filter (· ≠ I)) ba β { s with heap := h', toks := tk } g N :=
  have mem : ∀ {m}, m ∈ M → m ≠ I → m ∈ M.filter (· ≠ I) := fun {m} h n => List.mem_filter.mpr ⟨h, by simpa using n⟩
  ⟨t.st.dropG tk k hI hL hcI hO hb, fun b o e => k b o (fun z => by rw [z, hg] at e; cases e) (t.keep b o e), t.gL, t.gc, t.go, t.gb, fun m hm => mem (t.nm m hm) fun z => hN (z ▸ hm), t.on, t.oinj,
      fun x a h => mem (t.om x a h) (hO x a h), fun b o e hb => t.gm b o e (List.mem_filter.mp hb).1⟩

section
variable {W : Wd} {d : Nat} {σ σc : Vars} {β β1 β' : Bk} {elt iter : Expr} {rest : List Comprehension} {scope : Scope} {cpos pos np : Pos} {target : Expr} {ifs : List Expr} {body : Env → Value → Sem Unit} {p : Pos} {r : Res} {items : List PV} {out : List PyData} {x : String} {sl : Slot}

theorem X1.assignComp (a : Ev W d σ β iter r β1) (hi : Items W r.pv items) (hf : FreeOk σ scope.names) (hcv : CV scope.names σ σc) (hr : RunsS W d σc target ifs body β1 items out β')
    (heq : ∀ it acc env, compTurn (.ListComp elt (⟨target, iter, ifs, 0⟩ :: rest) scope cpos) 0 it acc env = turnTree (.ListComp elt (⟨target, iter, ifs, 0⟩ :: rest) scope cpos) 0 target ifs body p it acc env)
    (hfr : Free σc target) (hlen : out.length ≤ 2 ^ 20) (hx : (⟨x, .loc, sl⟩ : Var) ∈ σ) (hg : sl ≠ .glob := by simp) (hkind : scope.kind = .function := by rfl) (hnm : ∀ x ∈ scope.names, x.2 = .local → scope.names.lookup x.1 = some .local := by decide)
    (hs : ∀ env x, foldedSetIterable iter env x = pure x := by intro _ _; rfl) (h1 : (np.line == cpos.line) = true := by rfl) (h2 : (scope.names.any fun (n, k) => n == Str.ofString x && (k == .local || k == .cell)) = false := by decide) :
    X1 W d σ β (.Assign [.Name (Str.ofString x) np] (.ListComp elt (⟨target, iter, ifs, 0⟩ :: rest) scope cpos) pos) (.next (σ.put x (.own out))) β' := .mk fun A env O M ba s g N E Q t q => by
  have hk : env.kindOf (Str.ofString x) = some .local := (t.st.vars _ hx).kind hg
  rw [exec_Assign_Name_used _ _ _ _ (swaps_true t.st.kind hk h1 h2)]
  refine wpAny_bind (wpAny_standAt (wpAny_bind ?_))
  show wpAny _ A (do let _ ← comprehension (.ListComp elt (⟨target, iter, ifs, 0⟩ :: rest) scope cpos) scope env _ (newList []) false (eval iter env) (some (PySem.assign (.Name (Str.ofString x) np) env))) _ _ s
  refine wpAny_bind (wpAny_mono (wpAny_comprehension_free (use := some (PySem.assign (.Name (Str.ofString x) np) env)) (Q := fun _ s' => Q .next s') rfl (hs env) (closureFor_eq (free_some t.st hf)) hkind hnm (a.run A env O M ba s E _ t.st fun xv h1 tk1 c1 k1 r1 => ?_)) (fun _ s' hq => wpAny_pure (wpAny_pure hq)) fun _ _ e => e)
  have t1 := t.step c1 k1
  refine comp_core (RR' := compPost W.md A E (some (PySem.assign (.Name (Str.ofString x) np) env)) (fun _ s' => Q .next s')) t1.st (r1.pr t.st.co) hi hf hcv hkind hr heq hfr hlen fun D C h3 tk3 ys n m c3 k3 hD hC hDC nC hD3 r3 => ?_
  have hCM : C ∉ M := c1.fresh hC
  refine wpAny_assign_Name (act_own (H := [C]) t1 c3 k3 hx (by simp) hg hD hD3 (fun n hn => by rw [List.mem_singleton.mp hn]; exact ⟨hC, let ⟨o, _, _, e, _⟩ := nC; ⟨o, e⟩⟩) (r3.mono (frz_sub fun a ha => by simpa using ha)) fun h4 tk4 t4 kk => ?_)
  refine ⟨m, nC.at' fun o e => kk C o e hCM, fun h5 hs5 => ?_⟩
  have hgC : g C = none := by
    cases e : g C with
    | none => rfl
    | some o => have := t1.keep C o e; rw [hC] at this; cases this
  refine q .next ((x, D) :: O) _ h5 tk4 (t4.dropG (I := C) tk4 (fun b o n e => (hs5.2 b n).trans e) (by simp) (fun z => hCM (z ▸ t1.st.lm)) (fun y c hc z => hCM (z ▸ t1.st.cm y c hc)) (fun y a ha => ?_) (fun z => hCM (by subst z; exact t1.st.co.ba_mem)) hgC fun z => hCM (t1.nm C z)) .next
  rcases List.mem_cons.mp ha with e | ha
  · cases e; exact hDC
  · exact fun z => hCM (z ▸ t1.om y a ha)
end
end
end Sw

namespace Sw
section
structure DefAt (W : Wd) (f : Addr) (pn : List String) (scope : Scope) (body : List Stmt) : Prop where
  ex : ∃ o fd, W.h0.get? f = some o ∧ o.data = .func fd ∧ fd.body = .stmts body ∧ fd.scope = scope ∧ fd.globals = mainGlobals ∧ fd.builtins = builtinsNs ∧ fd.closure = [] ∧ W.h0.CodeRec fd.code fd.qualname ∧
    ∀ vs, vs.length = pn.length → bindArgs fd ⟨vs, []⟩ = pure ((pn.map Str.ofString).zip vs)
  kind : scope.kind = .function
  co : scope.isCoroutine = false
  gen : scope.isGenerator = false
  par : pn.all (fun x => kAll scope.names (Str.ofString x) .local || kAll scope.names (Str.ofString x) .cell) = true

/-- the names of a frame at its start: the parameters bound -/
inductive FV (names : List (Str × NameKind)) (ps : List (String × PV)) : Vars → Prop
  | nil : FV names ps []
  | glob {x r} : okName x → kAll names (Str.ofString x) .globalImplicit = true → FV names ps r → FV names ps (⟨x, .loc, .glob⟩ :: r)
  | loc {x r} : okName x → kAll names (Str.ofString x) .local = true → FV names ps r → FV names ps (⟨x, .loc, .unb⟩ :: r)
  | cell {x r} : okName x → kAll names (Str.ofString x) .cell = true → FV names ps r → FV names ps (⟨x, .cell, .unb⟩ :: r)
  | ploc {x p r} : okName x → kAll names (Str.ofString x) .local = true → (x, p) ∈ ps → FV names ps r → FV names ps (⟨x, .loc, .fz p⟩ :: r)
  | pcell {x p r} : okName x → kAll names (Str.ofString x) .cell = true → (x, p) ∈ ps → FV names ps r → FV names ps (⟨x, .cell, .fz p⟩ :: r)

theorem bindL_at {kindOf : Str → Option NameKind} {x : Str} {v : Value} (hk : kindOf x = some .local) : ∀ (binds : List (Str × Value)) (m : Str → Option Value), (binds.map (·.1)).Nodup → (((x, v) ∈ binds) ∨ ((∀ b ∈ binds, b.1 ≠ x) ∧ m x = some v)) → bindL kindOf binds m x = some v
  | [], m, _, h => h.elim (fun h => nomatch h) (·.2)
  | (n, u) :: r, m, hn, h => by
    have hn' := List.nodup_cons.mp hn
    unfold bindL
    refine bindL_at hk r _ hn'.2 ?_
    rcases h with h | ⟨h, e⟩
    · rcases List.mem_cons.mp h with e | h
      · cases e
        refine .inr ⟨fun b hb z => hn'.1 (List.mem_map.mpr ⟨b, hb, z⟩), ?_⟩
        rw [if_pos hk]; simp
      · exact .inl h
    · refine .inr ⟨fun b hb => h b (List.mem_cons_of_mem _ hb), ?_⟩
      have : n ≠ x := h (n, u) List.mem_cons_self
      split
      · simp [Ne.symm this, e]
      · exact e
theorem bindC_at {kindOf : Str → Option NameKind} {x : Str} {v : Value} (hk : kindOf x ≠ some .local) : ∀ (binds : List (Str × Value)) (m : Str → Option Value), (binds.map (·.1)).Nodup → (((x, v) ∈ binds) ∨ ((∀ b ∈ binds, b.1 ≠ x) ∧ m x = some v)) → bindC kindOf binds m x = some v
  | [], m, _, h => h.elim (fun h => nomatch h) (·.2)
  | (n, u) :: r, m, hn, h => by
    have hn' := List.nodup_cons.mp hn
    unfold bindC
    refine bindC_at hk r _ hn'.2 ?_
    rcases h with h | ⟨h, e⟩
    · rcases List.mem_cons.mp h with e | h
      · cases e
        refine .inr ⟨fun b hb z => hn'.1 (List.mem_map.mpr ⟨b, hb, z⟩), ?_⟩
        rw [if_neg hk]; simp
      · exact .inl h
    · refine .inr ⟨fun b hb => h b (List.mem_cons_of_mem _ hb), ?_⟩
      have : n ≠ x := h (n, u) List.mem_cons_self
      split
      · exact e
      · simp [Ne.symm this, e]

theorem zip_get {f : Fz} {ba : Option Addr} : ∀ {pn : List String} {ps : List PV} {vs : List Value}, PRs f ba vs ps → pn.length = ps.length → ∀ {x : String} {p : PV}, (x, p) ∈ pn.zip ps → ∃ v, (Str.ofString x, v) ∈ (pn.map Str.ofString).zip vs ∧ PR f ba v p
  | [], _, _, _, _, _, _, h => by simp at h
  | _ :: _, [], _, _, e, _, _, _ => by simp at e
  | n :: pn, p :: ps, _, .cons a b, e, x, q, h => by
    rcases List.mem_cons.mp h with z | h
    · cases z; exact ⟨_, List.mem_cons_self, a⟩
    · obtain ⟨v, h1, h2⟩ := zip_get b (by simpa using e) h
      exact ⟨v, List.mem_cons_of_mem _ h1, h2⟩

/-- a def's body, entered: the account at its start -/
theorem enter {W : Wd} {d : Nat} {A : Around} {M : List Addr} {ba : Option Addr} {β : Bk} {s s₁ : Shared} {fd : FuncData} {f : Addr} {pn : List String} {ps : List PV} {vs : List Value} {σ : Vars} (c : Co W (d + 1) A M ba β s) (hv : PRs (frz s.heap M) ba vs ps)
    (hlen : pn.length = ps.length) (hnd : (pn.map Str.ofString).Nodup) (hfv : FV fd.scope.names (pn.zip ps) σ) (hkind : fd.scope.kind = .function) (hg : fd.globals = mainGlobals) (hb : fd.builtins = builtinsNs)
    (x : InCallC s (callEnvC fd s.heap.objs.size f).locals (bindL (callEnvC fd s.heap.objs.size f).kindOf ((pn.map Str.ofString).zip vs) fun _ => none) (callEnvC fd s.heap.objs.size f).cells
        (bindC (callEnvC fd s.heap.objs.size f).kindOf ((pn.map Str.ofString).zip vs) fun _ => none) s₁) :
    ∃ M' h₁ tk, s₁ = { s with heap := h₁, toks := tk } ∧ Act W d (A.deeper (callEnvC fd s.heap.objs.size f)) (callEnvC fd s.heap.objs.size f) σ [] M' ba β s₁ (fun b => if ba = some b then none else s.heap.get? b) M := by
  obtain ⟨h₁, tk, rfl⟩ := x.toInCall.same
  have keep : ∀ b o, s.heap.get? b = some o → h₁.get? b = some o := x.toInCall.keep
  have L_eq : (callEnvC fd s.heap.objs.size f).locals = s.heap.objs.size := rfl
  have above : ∀ n cc, (n, cc) ∈ (callEnvC fd s.heap.objs.size f).cells → s.heap.objs.size < cc := x.above
  have fresh : ∀ a, s.heap.objs.size ≤ a → s.heap.get? a = none := fun a ha => by
    cases e : s.heap.get? a with
    | none => rfl
    | some o => exact absurd (Heap.lt_size e) (Nat.not_lt.mpr ha)
  let H : List Addr := s.heap.objs.size :: (callEnvC fd s.heap.objs.size f).cells.map (·.2)
  have look_mem : ∀ {y cc}, (callEnvC fd s.heap.objs.size f).cells.lookup y = some cc → (y, cc) ∈ (callEnvC fd s.heap.objs.size f).cells := fun h => mem_of_lookup h
  have hapart := x.apart
  -- the cells alone that a name leads to
  classical
  let H' : List Addr := s.heap.objs.size :: ((callEnvC fd s.heap.objs.size f).cells.map (·.2)).filter fun b => decide (∃ y, (callEnvC fd s.heap.objs.size f).cells.lookup y = some b)
  have hH1 : ∀ n ∈ H', s.heap.get? n = none := fun n hn => by
    rcases List.mem_cons.mp hn with rfl | hn
    · exact fresh _ (Nat.le_refl _)
    · obtain ⟨q, hq, rfl⟩ := List.mem_map.mp (List.mem_filter.mp hn).1
      exact fresh _ (Nat.le_of_lt (above q.1 q.2 hq))
  have hH2 : ∀ n ∈ H', ∃ o, h₁.get? n = some o := fun n hn => by
    rcases List.mem_cons.mp hn with rfl | hn
    · obtain ⟨o, _, _, e, _⟩ := x.toInCall.ns; exact ⟨o, e⟩
    · have := (List.mem_filter.mp hn).2
      simp only [decide_eq_true_eq] at this
      obtain ⟨y, hy⟩ := this
      obtain ⟨o, e, _⟩ := x.cell y n hy; exact ⟨o, e⟩
  have c0 : Co W d (A.deeper (callEnvC fd s.heap.objs.size f)) M ba β s := ⟨c.hand, by have := c.room; show A.depth + 1 + d < recursionLimit; omega, by have := c.units; show A.units + 3 + 8 * d + 100 < cLine; omega, c.base, c.live, c.book⟩
  have c1 := c0.step tk keep
  have c2 := c0.hide (N := H') c1 hH1 hH2
  have le := frz_hide (M := M) (N := H') (Kp.of_all (ba := ba) keep) (fun a e => by subst e; exact c.ba_mem) hH1
  have hba : ∀ {a}, ba = some a → a ∉ H' := fun {a} e z => by
    subst e
    obtain ⟨o, e'⟩ := c.live a c.ba_mem; rw [hH1 a z] at e'; cases e'
  have cellH : ∀ {y cc}, (callEnvC fd s.heap.objs.size f).cells.lookup y = some cc → cc ∈ H' := fun {y cc} h => List.mem_cons_of_mem _ (List.mem_filter.mpr ⟨List.mem_map.mpr ⟨(y, cc), look_mem h, rfl⟩, by simp only [decide_eq_true_eq]; exact ⟨y, h⟩⟩)
  have nodup : (((pn.map Str.ofString).zip vs).map (·.1)).Nodup := by
    have hl : (pn.map Str.ofString).length = vs.length := by rw [List.length_map, hlen, hv.length]
    rw [List.map_fst_zip (Nat.le_of_eq hl)]; exact hnd
  refine ⟨H' ++ M, h₁, tk, rfl, ⟨⟨c2, hkind, hg, hb, fun z => hba z List.mem_cons_self, List.mem_append_left _ List.mem_cons_self, ⟨_, x.toInCall.ns⟩, fun y cc h => List.mem_append_left _ (cellH h), fun y cc h => ⟨_, x.cell y cc h⟩,
    fun y z cc h1 h2 => name_of_addr hapart (look_mem h1) (look_mem h2), ?_, ?_⟩, fun b o e => ?_, ?_, fun y cc h => ?_, (fun _ _ h => nomatch h), fun a e => ?_, fun m hm => List.mem_append_right _ hm, (fun _ _ h => nomatch h), (fun _ _ _ h => nomatch h), (fun _ _ h => nomatch h), fun b o e hb' => ?_⟩⟩
  · induction hfv with
    | nil => intro v hv; cases hv
    | glob h _ _ ih => intro v hv; rcases List.mem_cons.mp hv with rfl | hv; exact h; exact ih v hv
    | loc h _ _ ih => intro v hv; rcases List.mem_cons.mp hv with rfl | hv; exact h; exact ih v hv
    | cell h _ _ ih => intro v hv; rcases List.mem_cons.mp hv with rfl | hv; exact h; exact ih v hv
    | ploc h _ _ _ ih => intro v hv; rcases List.mem_cons.mp hv with rfl | hv; exact h; exact ih v hv
    | pcell h _ _ _ ih => intro v hv; rcases List.mem_cons.mp hv with rfl | hv; exact h; exact ih v hv
  · have kc : ∀ {y}, kAll fd.scope.names (Str.ofString y) .cell = true → Kind (callEnvC fd s.heap.objs.size f) (Str.ofString y) .cell := fun {y} hk =>
      ⟨kAll_lookup hk, Option.isSome_iff_exists.mp (cellsFrom_some (x := Str.ofString y) fd.scope.names (s.heap.objs.size + 1) [] (.inl (kAll_lookup hk)))⟩
    induction hfv with
    | nil => intro v hv; cases hv
    | glob h k _ ih => intro v hv; rcases List.mem_cons.mp hv with rfl | hv; exact .glob (kAll_lookup k); exact ih v hv
    | loc h k _ ih => intro v hv; rcases List.mem_cons.mp hv with rfl | hv; exact .unb (kAll_lookup k); exact ih v hv
    | cell h k _ ih => intro v hv; rcases List.mem_cons.mp hv with rfl | hv; exact .unb (kc k); exact ih v hv
    | @ploc y p r h k hm _ ih =>
      intro v hv'
      rcases List.mem_cons.mp hv' with rfl | hv'
      · obtain ⟨u, hu, hp⟩ := zip_get hv hlen hm
        exact .fz (kAll_lookup k) ⟨_, x.toInCall.ns, bindL_at (kAll_lookup k) _ _ nodup (.inl hu)⟩ (hp.mono le)
      · exact ih v hv'
    | @pcell y p r h k hm _ ih =>
      intro v hv'
      rcases List.mem_cons.mp hv' with rfl | hv'
      · obtain ⟨u, hu, hp⟩ := zip_get hv hlen hm
        obtain ⟨cc, hcc⟩ := (kc k).2
        have := x.cell _ cc hcc
        rw [bindC_at (v := u) (by rw [show (callEnvC fd s.heap.objs.size f).kindOf (Str.ofString y) = some .cell from kAll_lookup k]; simp) _ _ nodup (.inl hu)] at this
        exact .fz (kc k) ⟨cc, hcc, this⟩ (hp.mono le)
      · exact ih v hv'
  · split at e
    · cases e
    · exact keep b o e
  · split
    · rfl
    · exact fresh _ (Nat.le_refl _)
  · split
    · rfl
    · exact hH1 cc (cellH h)
  · rw [if_pos e]
  · split at e
    · cases e
    · rcases List.mem_append.mp hb' with z | z
      · rw [hH1 b z] at e; cases e
      · exact z

theorem Op.def {W : Wd} {d : Nat} {f : Addr} {pn : List String} {scope : Scope} {body : List Stmt} (hd : DefAt W f pn scope body) {ps : List PV} {σ : Vars} {β β' : Bk} {p : PV} (hlen : pn.length = ps.length) (hnd : (pn.map Str.ofString).Nodup)
    (hfv : FV scope.names (pn.zip ps) σ) (x : Ex W d σ β body (.ret p) β') : Op W (d + 1) (fun vs => call (.ref f) vs) ps β (.val p) β' := fun A M ba s vs E Q c hv q => by
  obtain ⟨o, fd, ho, hdat, hbody, rfl, hg, hb, hclo, hcd, hbind⟩ := hd.ex
  have hl : vs.length = pn.length := by rw [hv.length, hlen]
  have nodup : (((pn.map Str.ofString).zip vs).map (·.1)) = pn.map Str.ofString := List.map_fst_zip (by rw [List.length_map, hl]; exact Nat.le_refl _)
  have kinds : ∀ b ∈ (pn.map Str.ofString).zip vs, fd.scope.names.lookup b.1 = some .local ∨ (fd.scope.names.lookup b.1 = some .cell ∧ ((cellsFrom (s.heap.objs.size + 1) fd.scope.names []).lookup b.1).isSome = true) := fun b hb' => by
    have hm : b.1 ∈ pn.map Str.ofString := nodup ▸ List.mem_map_of_mem hb'
    obtain ⟨x, hx, e⟩ := List.mem_map.mp hm
    have := List.all_eq_true.mp hd.par x hx
    rcases Bool.or_eq_true_iff.mp this with k | k
    · exact .inl (e ▸ kAll_lookup k)
    · exact .inr ⟨e ▸ kAll_lookup k, cellsFrom_some _ _ _ (.inl (e ▸ kAll_lookup k))⟩
  refine wpAny_call (codeAny_call_cells (by have := c.room; omega) (c.base _ _ ho).1 hdat (W.nolim.keeps fun b o e => (c.base b o e).1) (hcd.keeps fun b o e => (c.base b o e).1) hbody (hbind vs hl) hclo kinds (fun s₁ y => ?_) hd.co hd.gen hd.kind)
  obtain ⟨M', h₁, tk, rfl, t⟩ := enter c hv hlen hnd hfv hd.kind hg hb y
  refine x.run _ _ [] M' ba _ _ M _ _ t fun fl O' M2 h2 tk2 t2 r2 => ?_
  cases r2 with
  | @ret v _ hp =>
    have cc := t2.st.co.sub t2.nm fun a e => by subst e; exact c.ba_mem
    refine q v h2 tk2 ⟨c.hand, c.room, c.units, cc.base, cc.live, cc.book⟩ (fun b o e n => t2.keep b o (by rw [if_neg n]; exact e)) (.val (hp.mono (frz_sub t2.nm)))
end
end Sw

namespace Sw
section
theorem PRs.two {f ba vs p q} (h : PRs f ba vs [p, q]) : ∃ v u, vs = [v, u] ∧ PR f ba v p ∧ PR f ba u q := by
  cases h with
  | cons a b => cases b with | cons b c => cases c; exact ⟨_, _, rfl, a, b⟩
theorem PRs.one {f ba vs p} (h : PRs f ba vs [p]) : ∃ v, vs = [v] ∧ PR f ba v p := by
  cases h with
  | cons a b => cases b; exact ⟨_, rfl, a⟩
theorem PRs.three {f ba vs p q r} (h : PRs f ba vs [p, q, r]) : ∃ v u w, vs = [v, u, w] ∧ PR f ba v p ∧ PR f ba u q ∧ PR f ba w r := by
  cases h with
  | cons a b => cases b with | cons b c => cases c with | cons c d => cases d; exact ⟨_, _, _, rfl, a, b, c⟩
theorem PR.int {f ba v i} (h : PR f ba v (.d (.int i))) : ∃ t, v = .int i t := by cases h.out; exact ⟨_, rfl⟩
theorem PR.str {f ba v i} (h : PR f ba v (.d (.str i))) : ∃ t, v = .str i t := by cases h.out; exact ⟨_, rfl⟩

/-- a result that touches no heap -/
theorem Post.tok {W d A M ba β} {s : Shared} {r : Res} {Q : Value → Shared → Prop} (c : Co W d A M ba β s) (q : Post W d A M ba β s r Q) {v : Value} {p : PV} (e : r = .val p) (h : PR (frz s.heap M) ba v p) (tk : Nat) : Q v { s with toks := tk } := by
  subst e; exact q v s.heap tk (c.toks tk) (Kp.refl _ _) (.val h)
theorem Post.same {W d A M ba β} {s : Shared} {r : Res} {Q : Value → Shared → Prop} (c : Co W d A M ba β s) (q : Post W d A M ba β s r Q) {v : Value} {p : PV} (e : r = .val p) (h : PR (frz s.heap M) ba v p) : Q v s :=
  Post.tok c q e h s.toks

noncomputable abbrev bop (op : Operator) : List Value → Sem Value := fun vs => binaryOp op (vs.getD 0 .none) (vs.getD 1 .none)
noncomputable abbrev cop (op : CmpOp) : List Value → Sem Value := fun vs => compareOp op (vs.getD 0 .none) (vs.getD 1 .none)

section
variable {W : Wd} {d : Nat} {β : Bk} {a b : Int}
theorem opInt {t : List Value → Sem Value} {r : PV} (h : ∀ A M ba s ta tb E Q, Co W d A M ba β s → (∀ v tk, PR (frz s.heap M) ba v r → Q v { s with toks := tk }) → wpAny W.md A (t [.int a ta, .int b tb]) Q E s) :
    Op W d t [.d (.int a), .d (.int b)] β (.val r) β := fun A M ba s vs E Q c p q => by
  obtain ⟨v, u, rfl, pa, pb⟩ := p.two
  obtain ⟨ta, rfl⟩ := pa.int
  obtain ⟨tb, rfl⟩ := pb.int
  exact h A M ba s ta tb E Q c fun v tk hv => q.tok c rfl hv tk
theorem Op.add : Op W d (bop .Add) [.d (.int a), .d (.int b)] β (.int (a + b)) β := opInt fun A M ba s ta tb E Q c q => PyProof.Rows.add_int (q _ _ (.d (.int _ _)))
theorem Op.sub : Op W d (bop .Sub) [.d (.int a), .d (.int b)] β (.int (a - b)) β := opInt fun A M ba s ta tb E Q c q => PyProof.Rows.sub_int (q _ _ (.d (.int _ _)))
theorem Op.mul (h : IntMulOk a b) : Op W d (bop .Mult) [.d (.int a), .d (.int b)] β (.int (a * b)) β := opInt fun A M ba s ta tb E Q c q => PyProof.Rows.mul_int (q _ _ (.d (.int _ _))) h
theorem Op.fdiv (h : 0 < b) (h' : b < 1073741824) : Op W d (bop .FloorDiv) [.d (.int a), .d (.int b)] β (.int (a / b)) β := opInt fun A M ba s ta tb E Q c q =>
  PyProof.Rows.floordiv_int (by omega) (by rw [Int.fdiv_eq_ediv_of_nonneg _ (by omega)]; exact q _ _ (.d (.int _ _))) (.inl (PyProof.noPylong_small (by omega)))
theorem Op.mod (h : 0 < b) : Op W d (bop .Mod) [.d (.int a), .d (.int b)] β (.int (a % b)) β := opInt fun A M ba s ta tb E Q c q =>
  PyProof.Rows.mod_int' (by omega) (by rw [Int.fmod_eq_emod_of_nonneg _ (by omega)]; exact q _ _ (.d (.int _ _)))
theorem Op.pow (h : 0 ≤ b) (h' : (Builtin.Int.intBits a : Int) * b ≤ 2 ^ 27) : Op W d (bop .Pow) [.d (.int a), .d (.int b)] β (.int (a ^ b.toNat)) β := opInt fun A M ba s ta tb E Q c q => PyProof.Rows.pow_int h h' (q _ _ (.d (.int _ _)))
theorem Op.shl (h : 0 ≤ b) (h' : b ≤ 1000000) (ha : a.natAbs < 2 ^ 64) : Op W d (bop .LShift) [.d (.int a), .d (.int b)] β (.int (a * 2 ^ b.toNat)) β := opInt fun A M ba s ta tb E Q c q => PyProof.Rows.lshift_int_small h h' ha (q _ _ (.d (.int _ _)))
theorem Op.and : Op W d (bop .BitAnd) [.d (.int a), .d (.int b)] β (.int (Builtin.bitAnd a b)) β := opInt fun A M ba s ta tb E Q c q => PyProof.Rows.and_int (q _ _ (.d (.int _ _)))
theorem Op.lt : Op W d (cop .Lt) [.d (.int a), .d (.int b)] β (.bool (decide (a < b))) β := opInt fun A M ba s ta tb E Q c q => PyProof.Rows.lt_int (q _ s.toks (.d (.bool _)))
theorem Op.gt : Op W d (cop .Gt) [.d (.int a), .d (.int b)] β (.bool (decide (b < a))) β := opInt fun A M ba s ta tb E Q c q => PyProof.Rows.gt_int (q _ s.toks (.d (.bool _)))
theorem Op.le : Op W d (cop .LtE) [.d (.int a), .d (.int b)] β (.bool (decide (a ≤ b))) β := opInt fun A M ba s ta tb E Q c q => PyProof.Rows.le_int (q _ s.toks (.d (.bool _)))
theorem Op.ge : Op W d (cop .GtE) [.d (.int a), .d (.int b)] β (.bool (decide (b ≤ a))) β := opInt fun A M ba s ta tb E Q c q => PyProof.Rows.ge_int (q _ s.toks (.d (.bool _)))
theorem Op.eq : Op W d (cop .Eq) [.d (.int a), .d (.int b)] β (.bool (a == b)) β := opInt fun A M ba s ta tb E Q c q => PyProof.Rows.eq_int (q _ s.toks (.d (.bool _)))
theorem Op.ne : Op W d (cop .NotEq) [.d (.int a), .d (.int b)] β (.bool (a != b)) β := opInt fun A M ba s ta tb E Q c q => PyProof.Rows.ne_int (q _ s.toks (.d (.bool _)))

variable {x y : Str}
theorem opStr {t : List Value → Sem Value} {r : PV} (h : ∀ A M ba s ta tb E Q, Co W d A M ba β s → (∀ v tk, PR (frz s.heap M) ba v r → Q v { s with toks := tk }) → wpAny W.md A (t [.str x ta, .str y tb]) Q E s) :
    Op W d t [.d (.str x), .d (.str y)] β (.val r) β := fun A M ba s vs E Q c p q => by
  obtain ⟨v, u, rfl, pa, pb⟩ := p.two
  obtain ⟨ta, rfl⟩ := pa.str
  obtain ⟨tb, rfl⟩ := pb.str
  exact h A M ba s ta tb E Q c fun v tk hv => q.tok c rfl hv tk
theorem Op.adds (h : x.length + y.length ≤ 2 ^ 24) : Op W d (bop .Add) [.d (.str x), .d (.str y)] β (.str (x ++ y)) β := opStr fun A M ba s ta tb E Q c q => PyProof.Rows.add_str (fun t' tk => q _ _ (.d (.str _ _))) (by rw [sizeLine_eq]; omega)
theorem Op.eqs : Op W d (cop .Eq) [.d (.str x), .d (.str y)] β (.bool (x == y)) β := opStr fun A M ba s ta tb E Q c q => PyProof.Rows.eq_str (q _ s.toks (.d (.bool _)))
theorem Op.nes : Op W d (cop .NotEq) [.d (.str x), .d (.str y)] β (.bool (x != y)) β := opStr fun A M ba s ta tb E Q c q => PyProof.Rows.ne_str (q _ s.toks (.d (.bool _)))
theorem Op.muls (L N : Nat) (h1 : x.length ≤ L) (h2 : a ≤ (N : Int)) (h3 : -(2 ^ 63 : Int) ≤ a) (h4 : N ≤ 16777216) (h5 : L * N ≤ 16777216) : Op W d (bop .Mult) [.d (.str x), .d (.int a)] β (.str (Txt.mul x a)) β := fun A M ba s vs E Q c p q => by
  obtain ⟨v, u, rfl, pa, pb⟩ := p.two
  obtain ⟨ta, rfl⟩ := pa.str
  obtain ⟨tb, rfl⟩ := pb.int
  exact SB.mul (mulOk_of L N h1 h2 h3 h4 h5) fun t' k => q.tok c rfl (.d (.str _ _)) k
end
end
end Sw

namespace Sw
section
theorem PR.list {h : Heap} {M ba v xs} (p : PR (frz h M) ba v (.d (.list xs))) : ∃ a vs, v = .ref a ∧ h.IsList a vs ∧ VRs (frz h M) vs.toList xs ∧ a ∉ M := by
  cases p.out with
  | @list a o vs n _ x y z r => exact ⟨a, vs, rfl, ⟨o, (frz_some.mp x).2, y, n, z⟩, r, (frz_some.mp x).1⟩
theorem PR.tuple {h : Heap} {M ba v xs} (p : PR (frz h M) ba v (.d (.tuple xs))) : ∃ a vs, v = .ref a ∧ h.IsTuple a vs ∧ VRs (frz h M) vs.toList xs := by
  cases p.out with
  | @tuple a o vs n _ x y z r => exact ⟨a, vs, rfl, ⟨o, (frz_some.mp x).2, y, n, z⟩, r⟩
theorem VRs.ints {f : Fz} : ∀ {vs : List Value} {ns : List Int}, VRs f vs (ns.map .int) → IntsAre vs ns
  | _, [], .nil => .nil
  | _, _ :: _, .cons a b => by cases a; exact .cons _ _ (VRs.ints b)
theorem VRs.strs {f : Fz} : ∀ {vs : List Value} {ns : List Str}, VRs f vs (ns.map .str) → StrsAre vs ns
  | _, [], .nil => .nil
  | _, _ :: _, .cons a b => by cases a; exact .cons _ _ (VRs.strs b)

section
variable {W : Wd} {d : Nat} {β : Bk}
/-- a result in a heap that keeps all -/
theorem Post.grow {A M ba} {s : Shared} {r : Res} {Q : Value → Shared → Prop} (c : Co W d A M ba β s) (q : Post W d A M ba β s r Q) {h' : Heap} (k : ∀ b o, s.heap.get? b = some o → h'.get? b = some o) (tk : Nat) {v : Value} (h : RR s.heap h' M ba v r) : Q v { s with heap := h', toks := tk } :=
  q v h' tk (c.step tk k) (Kp.of_all k) h

theorem new_at {W d A M ba β} {s : Shared} (c : Co W d A M ba β s) {vs : List Value} {xs : List PyData} (hv : VRs (frz s.heap M) vs xs) : RR s.heap (s.heap.push { cls := .type "list", data := .seq vs.toArray }) M ba (.ref s.heap.objs.size) (.new xs) := by
  obtain ⟨c2, k2, hn, hs, hf⟩ := push_new c { cls := .type "list", data := .seq vs.toArray } rfl s.toks
  exact .new hn hs (by simpa using hv.mono (frz_hide (N := [s.heap.objs.size]) k2 (fun a e => by subst e; exact c.ba_mem) (fun n hm => by rw [List.mem_singleton.mp hm]; exact hn)))
theorem VRs.rep {f : Fz} {vs : List Value} {xs : List PyData} (h : VRs f vs xs) : ∀ k : Nat, VRs f (List.replicate k vs).flatten (List.replicate k xs).flatten
  | 0 => .nil
  | k + 1 => by
    rw [List.replicate_succ, List.replicate_succ, List.flatten_cons, List.flatten_cons]
    exact (VRs.rep h k).append h

theorem Op.addl {xs ys : List PyData} (hsz : xs.length + ys.length ≤ 2 ^ 24) : Op W d (bop .Add) [.d (.list xs), .d (.list ys)] β (.new (xs ++ ys)) β := fun A M ba s vs E Q c p q => by
  obtain ⟨v, u, rfl, pa, pb⟩ := p.two
  obtain ⟨l, us, rfl, hl, hr, _⟩ := pa.list
  obtain ⟨b, ws, rfl, hb, hr2, _⟩ := pb.list
  obtain ⟨⟨cls, dd, data, sl⟩, ho, hc, n, hd⟩ := id hl
  obtain ⟨⟨cls2, dd2, data2, sl2⟩, ho2, hc2, n2, hd2⟩ := id hb
  simp only at hc hd hc2 hd2
  subst hc hd hc2 hd2
  refine concat_meets ⟨_, ho, rfl⟩ ⟨_, ho2, rfl⟩ noFill_list_add seq_list_add PySem.F.slot_list_add PySem.F.entry_list_add (PySem.F.args_list_add_2 _ _) (list_addW l b us ws n n2 dd dd2 sl sl2 (by rw [sizeLine_eq, ← Array.length_toList, ← Array.length_toList, hr.length, hr2.length]; omega)) ⟨ho, ho2, ?_⟩
  have e : us ++ ws = (us.toList ++ ws.toList).toArray := by simp
  have := new_at c (hr2.append hr)
  rw [e]
  exact q.grow c (fun b o e => Heap.get?_push_of_some _ e) s.toks this

theorem Op.mull {xs : List PyData} {x : Int} (hlo : -(2 ^ 63 : Int) ≤ x) (hhi : x < 2 ^ 63) (hsz : xs.length * x.toNat ≤ 2 ^ 24) : Op W d (bop .Mult) [.d (.list xs), .d (.int x)] β (.new (List.replicate x.toNat xs).flatten) β := fun A M ba s vs E Q c p q => by
  obtain ⟨v, u, rfl, pa, pb⟩ := p.two
  obtain ⟨l, us, rfl, hl, hr, _⟩ := pa.list
  obtain ⟨u, rfl⟩ := pb.int
  obtain ⟨⟨cls, d, data, sl⟩, ho, hcl, k, hd⟩ := id hl
  simp only at hcl hd
  subst hcl hd
  have hsz' : us.size * x.toNat ≤ 2 ^ 24 := by rw [← Array.length_toList, hr.length]; exact hsz
  refine wpAny_binaryOp_repeat_ref (T := "list") (U := "int") (by decide) ⟨_, ho, rfl⟩ (fun s' => typeIs_int s' x u) noFill_list_mul F.fills_int_mul F.slot_int_rmul repeat_list F.slot_int_index.lookup
    (call_meets F.slot_int_rmul (typeIs_int s x u) F.entry_int_rmul (F.args_int_rmul_2 _ _) (lm_int_rmul_list_any x u l us k d sl)
      ⟨ho, rfl, ⟨_, ho, rfl⟩, call_meets F.slot_list_mul ⟨_, ho, rfl⟩ F.entry_list_mul (F.args_list_mul_2 _ _)
        (lm_list_mul_any l us k d sl x u (by simp [Builtin.List.listFitsIndex]; omega) (by omega) (by simp [Builtin.List.listTooLong, sizeLine]; omega))
        ⟨ho, ?_⟩⟩)
  rw [listMul_foldl_if]
  exact q.grow c (fun b o e => Heap.get?_push_of_some _ e) s.toks (new_at c (hr.rep _))

theorem Op.eqd {x y : PyData} (hx : SeqAt.shaped x = true) (hy : SeqAt.shaped y = true) : Op W d (cop .Eq) [.d x, .d y] β (.bool (PyData.eqv x y)) β := fun A M ba s vs E Q c p q => by
  obtain ⟨v, u, rfl, pa, pb⟩ := p.two
  obtain ⟨_, ra⟩ := pa.out.reads
  obtain ⟨_, rb⟩ := pb.out.reads
  exact eq_dataH ra rb hx hy (by have := c.units; omega) (q.same c rfl (.d (.bool _)))
theorem Op.ned {x y : PyData} (hx : SeqAt.shaped x = true) (hy : SeqAt.shaped y = true) : Op W d (cop .NotEq) [.d x, .d y] β (.bool (!PyData.eqv x y)) β := fun A M ba s vs E Q c p q => by
  obtain ⟨v, u, rfl, pa, pb⟩ := p.two
  obtain ⟨_, ra⟩ := pa.out.reads
  obtain ⟨_, rb⟩ := pb.out.reads
  exact ne_dataH ra rb hx hy (by have := c.units; omega) (q.same c rfl (.d (.bool _)))
theorem Op.inl {x : PyData} {xs : List PyData} (hx : x.canLay0 = true) (hy : PyData.canLayAll0 xs = true) (hd : x.depth ≤ 90) : Op W d (cop .In) [.d x, .d (.list xs)] β (.bool (xs.any fun y => PyData.eqv y x)) β := fun A M ba s vs E Q c p q => by
  obtain ⟨v, u, rfl, pa, pb⟩ := p.two
  obtain ⟨_, ra⟩ := pa.out.reads
  obtain ⟨_, rb⟩ := pb.out.reads
  exact SeqAt.in_list_reads rb ra hy hx (by have := c.units; omega) (q.same c rfl (.d (.bool _)))
theorem Op.notinl {x : PyData} {xs : List PyData} (hx : x.canLay0 = true) (hy : PyData.canLayAll0 xs = true) (hd : x.depth ≤ 90) : Op W d (cop .NotIn) [.d x, .d (.list xs)] β (.bool (!xs.any fun y => PyData.eqv y x)) β := fun A M ba s vs E Q c p q => by
  obtain ⟨v, u, rfl, pa, pb⟩ := p.two
  obtain ⟨_, ra⟩ := pa.out.reads
  obtain ⟨_, rb⟩ := pb.out.reads
  exact SeqAt.notIn_list_reads rb ra hy hx (by have := c.units; omega) (q.same c rfl (.d (.bool _)))

noncomputable abbrev bcall (id : String) : List Value → Sem Value := fun vs => call (.builtin id) vs
noncomputable abbrev tcall (id : String) : List Value → Sem Value := fun vs => call (.type id) vs
theorem Op.lens {x : Str} (h : x.length < 2 ^ 62) : Op W d (bcall "len") [.d (.str x)] β (.int x.length) β := fun A M ba s vs E Q c p q => by
  obtain ⟨v, rfl, pa⟩ := p.one
  obtain ⟨t, rfl⟩ := pa.str
  exact PyProof.Rows.len_str (by omega) (q.tok c rfl (.d (.int _ _)) _)
theorem Op.lenl {x : List PyData} (h : x.length < 2 ^ 62) : Op W d (bcall "len") [.d (.list x)] β (.int x.length) β := fun A M ba s vs E Q c p q => by
  obtain ⟨v, rfl, pa⟩ := p.one
  obtain ⟨l, us, rfl, hl, hr, _⟩ := pa.list
  have e : us.size = x.length := by rw [← Array.length_toList, hr.length]
  exact PyProof.Rows.len_list hl (by omega) (by rw [e]; exact q.tok c rfl (.d (.int _ _)) _)
theorem Op.lent {x : List PyData} (h : x.length < 2 ^ 62) : Op W d (bcall "len") [.d (.tuple x)] β (.int x.length) β := fun A M ba s vs E Q c p q => by
  obtain ⟨v, rfl, pa⟩ := p.one
  obtain ⟨l, us, rfl, hl, hr⟩ := pa.tuple
  have e : us.size = x.length := by rw [← Array.length_toList, hr.length]
  exact PyProof.Rows.len_tuple hl (by omega) (by rw [e]; exact q.tok c rfl (.d (.int _ _)) _)
theorem Op.sum {ns : List Int} : Op W d (bcall "sum") [.d (.list (ns.map .int))] β (.int ns.sum) β := fun A M ba s vs E Q c p q => by
  obtain ⟨v, rfl, pa⟩ := p.one
  obtain ⟨l, us, rfl, hl, hr, _⟩ := pa.list
  have hi := hr.ints
  obtain ⟨xs, e⟩ := hi.allInts.items
  rw [show us = intItems xs from by rw [← e]] at hl
  refine sum_intListG c.hand hl fun h' tk t' k => ?_
  have : preSum (numAt xs) xs.size = ns.sum := by
    rw [← hi.numsOf, show us.toList = (intItems xs).toList from by rw [← e], nums_intItems, preSum_eq, List.take_of_length_le (by simp)]
  rw [this]
  exact q.grow c k tk (.val (.d (.int _ _)))
theorem Op.max {a b : Int} : Op W d (bcall "max") [.d (.int a), .d (.int b)] β (.int (max a b)) β := fun A M ba s vs E Q c p q => by
  obtain ⟨v, u, rfl, pa, pb⟩ := p.two
  obtain ⟨t, rfl⟩ := pa.int
  obtain ⟨t', rfl⟩ := pb.int
  refine max_two_ints c.hand fun h' tk k => q.grow c k tk ?_
  by_cases h : b > a
  · rw [if_pos h, show Max.max a b = b by omega]; exact .val (.d (.int _ _))
  · rw [if_neg h, show Max.max a b = a by omega]; exact .val (.d (.int _ _))
theorem Op.min {ns : List Int} {m : Int} (hm : m ∈ ns) (hl : ∀ a ∈ ns, m ≤ a) : Op W d (bcall "min") [.d (.list (ns.map .int))] β (.int m) β := fun A M ba s vs E Q c p q => by
  obtain ⟨v, rfl, pa⟩ := p.one
  obtain ⟨l, us, rfl, hl', hr, _⟩ := pa.list
  have hi := hr.ints
  obtain ⟨xs, e⟩ := hi.allInts.items
  have e' : us = intItems xs := by rw [← e]
  have hns : ns = xs.toList.map (·.1) := by
    rw [← hi.numsOf, ← nums_intItems, ← e']
  have hsz : 0 < xs.size := by
    have h3 := List.length_pos_of_mem hm; rw [hns, List.length_map, Array.length_toList] at h3; exact h3
  rw [e'] at hl'
  refine min_intList c.hand hl' hsz fun v h' tk hv k => ?_
  obtain ⟨t, rfl⟩ := intItems_at hv
  obtain ⟨h1, h2⟩ := argBest_lt (numAt xs) (xs.size - 1)
  have hmem : numAt xs (argBest (fun i j => decide (numAt xs i < numAt xs j)) (xs.size - 1)) ∈ ns := by
    rw [hns, numAt_eq]; exact getD_mem (by rw [List.length_map, Array.length_toList]; omega)
  have hle : numAt xs (argBest (fun i j => decide (numAt xs i < numAt xs j)) (xs.size - 1)) ≤ m := by
    have hm' := hm
    rw [hns] at hm'
    obtain ⟨j, hj, rfl⟩ := mem_getD hm'
    rw [List.length_map, Array.length_toList] at hj
    rw [← numAt_eq]; exact h2 j (by omega)
  have := hl _ hmem
  rw [show numAt xs (argBest (fun i j => decide (numAt xs i < numAt xs j)) (xs.size - 1)) = m by omega]
  exact q.grow c k tk (.val (.d (.int _ _)))
theorem Op.hex {a : Int} (h : (PySem.baseText "0x" 16 a).length ≤ 2 ^ 24) : Op W d (bcall "hex") [.d (.int a)] β (.str (PySem.baseText "0x" 16 a)) β := fun A M ba s vs E Q c p q => by
  obtain ⟨v, rfl, pa⟩ := p.one
  obtain ⟨t, rfl⟩ := pa.int
  exact P.hex_of_int (q.tok c rfl (.d (.str _ _)) _) (by rw [sizeLine_eq]; exact h)
theorem Op.tuplel {xs : List PyData} (h : xs.length ≤ 2 ^ 24) : Op W d (tcall "tuple") [.d (.list xs)] β (.dat (.tuple xs)) β := fun A M ba s vs E Q c p q => by
  obtain ⟨v, rfl, pa⟩ := p.one
  obtain ⟨l, us, rfl, hl, hr, _⟩ := pa.list
  refine call_tuple_list hl (fun h1 k => ?_) (by rw [sizeLine_eq, ← Array.length_toList, hr.length]; exact h)
  have c1 := c.step s.toks k
  obtain ⟨c2, k2, hn, hs, hf⟩ := push_new c1 { cls := .type "tuple", data := .seq us } rfl s.toks
  exact q.grow c (fun b o e => Heap.get?_push_of_some _ (k b o e)) s.toks (.val (.d (.tuple hf rfl rfl (hr.mono (c.fle (Kp.of_all fun b o e => Heap.get?_push_of_some _ (k b o e)))))))
end
end
end Sw

namespace Sw
section
section
variable {W : Wd} {d : Nat} {β : Bk}
theorem Op.range1 {n : Int} : Op W d (tcall "range") [.d (.int n)] β (.val (.rng 0 n 1)) β := fun A M ba s vs E Q c p q => by
  obtain ⟨v, rfl, pa⟩ := p.one
  obtain ⟨t, rfl⟩ := pa.int
  refine call_range_1 ?_
  obtain ⟨c2, k2, hn, hs, hf⟩ := push_new c { cls := .type "range", data := .fields #[.int 0 s.toks, .int n t, .int 1 (s.toks + 1)] } rfl (s.toks + 1 + 1)
  exact q _ _ _ c2 k2 (.val (.rng hf))
theorem Op.range2 {a b : Int} : Op W d (tcall "range") [.d (.int a), .d (.int b)] β (.val (.rng a b 1)) β := fun A M ba s vs E Q c p q => by
  obtain ⟨v, u, rfl, pa, pb⟩ := p.two
  obtain ⟨t, rfl⟩ := pa.int
  obtain ⟨u, rfl⟩ := pb.int
  refine call_range_2 ?_
  obtain ⟨c2, k2, hn, hs, hf⟩ := push_new c { cls := .type "range", data := .fields #[.int a t, .int b u, .int 1 s.toks] } rfl (s.toks + 1)
  exact q _ _ _ c2 k2 (.val (.rng hf))
theorem Op.range3 {a b c : Int} (h : c ≠ 0) (hc : c.natAbs < 1073741824) : Op W d (tcall "range") [.d (.int a), .d (.int b), .d (.int c)] β (.val (.rng a b c)) β := fun A M ba s vs E Q co p q => by
  obtain ⟨v, u, w, rfl, pa, pb, pc⟩ := p.three
  obtain ⟨t, rfl⟩ := pa.int
  obtain ⟨u, rfl⟩ := pb.int
  obtain ⟨w, rfl⟩ := pc.int
  refine call_range_3 h ?_ (.inl (PyProof.noPylong_small hc))
  obtain ⟨c2, k2, hn, hs, hf⟩ := push_new co { cls := .type "range", data := .fields #[.int a t, .int b u, .int c w] } rfl s.toks
  exact q _ _ _ c2 k2 (.val (.rng hf))
theorem Op.stri {a : Int} (h : a.natAbs.log2 < 1920) : Op W d (tcall "str") [.d (.int a)] β (.str (Str.ofString (toString a))) β := fun A M ba s vs E Q c p q => by
  obtain ⟨v, rfl, pa⟩ := p.one
  obtain ⟨t, rfl⟩ := pa.int
  exact P.str_of_int h (q.tok c rfl (.d (.str _ _)) _)


theorem MethAt.join {x : Str} : MethAt W (.d (.str x)) (Str.ofString "join") (.builtin "str.join") := fun d A M ba β s v E pl Q c hp q => by
  obtain ⟨t, rfl⟩ := hp.str
  exact @GM.join W.md A E s x t pl Q (q s.toks)
theorem MethAt.split {x : Str} : MethAt W (.d (.str x)) (Str.ofString "split") (.builtin "str.split") := fun d A M ba β s v E pl Q c hp q => by
  obtain ⟨t, rfl⟩ := hp.str
  exact @GM.split W.md A E s x t pl Q (q s.toks)
theorem Mt.join {x : Str} {ys : List Str} (h : (ys.map (·.length)).sum + ys.length * x.length ≤ 16777216) : Mt W d (.d (.str x)) "join" [.d (.list (ys.map .str))] β (.str (Txt.join x ys)) β :=
  ⟨_, MethAt.join, KeepOk.builtin, fun A M ba s vs E Q c p q => by
    obtain ⟨v, u, rfl, pa, pb⟩ := p.two
    obtain ⟨t, rfl⟩ := pa.str
    obtain ⟨l, us, rfl, hl, hr, _⟩ := pb.list
    exact join_list hl hr.strs h fun t' k => q.tok c rfl (.d (.str _ _)) k⟩
theorem strValues_vrs {f : Fz} : ∀ l : List (Str × Tok), VRs f (strValues l) ((l.map (·.1)).map .str)
  | [] => .nil
  | (x, t) :: r => .cons (.str x t) (strValues_vrs r)
theorem Mt.split {x y : Str} (hy : (y.length == 0) = false) (hsz : x.length + 2 ≤ 2 ^ 24) : Mt W d (.d (.str x)) "split" [.d (.str y)] β (.dat (.list ((Txt.split x y).map .str))) β :=
  ⟨_, MethAt.split, KeepOk.builtin, fun A M ba s vs E Q c p q => by
    obtain ⟨v, u, rfl, pa, pb⟩ := p.two
    obtain ⟨t, rfl⟩ := pa.str
    obtain ⟨u, rfl⟩ := pb.str
    have fin : ∀ (l : List (Str × Tok)) (k : Nat), l.map (·.1) = Txt.split x y → Q (.ref s.heap.objs.size) { s with toks := k, heap := s.heap.push { cls := .type "list", data := .seq (strValues l).toArray } } := fun l k e =>
      q.grow c (fun b o e => Heap.get?_push_of_some _ e) k (RR.val ((new_at c (strValues_vrs l)).pr c |> fun z => by rw [e] at z; exact z))
    have hn : (Builtin.Str.partsBetween x (Builtin.Str.occurrences x y 0 x.length (x.length + 1)) y.length).length ≤ sizeLine := by
      have e1 := StrLaws.occ_length_le x y 0 x.length (x.length + 1)
      rw [length_partsBetween, sizeLine_eq]; omega
    cases h1 : (decide (x.length < y.length) || decide (Builtin.Str.strKind x < Builtin.Str.strKind y))
    · cases hf : (Builtin.Str.occurrences x y 0 x.length (x.length + 1)).isEmpty
      · refine call_meets F.slot_str_split (typeIs_str _ _ _) F.entry_str_split (F.args_str_split_2 _ _) (meets_str_split_sep x y t u h1 hy hf (by rw [sizeLine_eq]; omega) hn) ?_
        show wants Q E _ { s with toks := _, heap := s.heap.push { cls := .type "list", data := .seq (strsFrom s.toks (Builtin.Str.partsBetween x (Builtin.Str.occurrences x y 0 x.length (x.length + 1)) y.length)).toArray } }
        rw [strsFrom_eq]
        exact fin (numbered s.toks _) _ ((numbered_texts _ _).trans ((if_neg (ne_true_of_eq_false h1)).trans (if_neg (ne_true_of_eq_false hf))).symm)
      · exact call_meets F.slot_str_split (typeIs_str _ _ _) F.entry_str_split (F.args_str_split_2 _ _) (meets_str_split_not_found x y t u h1 hy hf) (fin [(x, t)] s.toks ((if_neg (ne_true_of_eq_false h1)).trans (if_pos hf)).symm)
    · exact call_meets F.slot_str_split (typeIs_str _ _ _) F.entry_str_split (F.args_str_split_2 _ _) (meets_str_split_cannot_occur x y t u h1) (fin [(x, t)] s.toks (if_pos h1).symm)⟩

/-- a subscript -/
noncomputable abbrev stail (value slice : Expr) : List Value → Sem Value := fun vs => subscriptTail value slice (vs.getD 0 .none) (vs.getD 1 .none)
theorem Ev.sub {σ β1 β2 β' value slice pos p q x} (a : Ev W d σ β value p β1) (b : Ev W d σ β1 slice q β2) (o : Op W d (stail value slice) [p.pv, q.pv] β2 x β') : Ev W d σ β (.Subscript value slice pos) x β' := .mk fun A env O M ba s E Q t k => by
  refine Subscript_ (a.run A env O M ba s E _ t fun v h1 tk1 c1 k1 r1 => b.run A env O M ba _ E _ (t.step c1 k1) fun u h2 tk2 c2 k2 r2 => ?_)
  exact o A M ba _ [v, u] E _ c2 (.cons ((r1.pr t.co).mono (c1.fle k2)) (.cons (r2.pr c1) .nil)) (Post.later (s := s) t.co c2 (k1.trans k2) k)
noncomputable def PlainSub (slice : Expr) : Prop := ∀ o i, subscripted slice false o i = operate [o, i] (getItem o i)
theorem Op.item {value slice : Expr} {xs : List PyData} {k : Int} {x : PyData} (h0 : 0 ≤ k) (hk : k < 2 ^ 63) (hx : xs[k.toNat]? = some x) (hs : PlainSub slice := by intro _ _; rfl) : Op W d (stail value slice) [.d (.list xs), .d (.int k)] β (.dat x) β := fun A M ba s vs E Q c p q => by
  obtain ⟨v, u, rfl, pa, pb⟩ := p.two
  obtain ⟨l, us, rfl, hl, hr, _⟩ := pa.list
  obtain ⟨t, rfl⟩ := pb.int
  obtain ⟨v, e, hv⟩ := hr.get hx
  exact tail_any hl.typeIs slot_list_getitem.lookup (wpAny_getItem_list hl h0 hk (by simpa using e) (q.same c rfl (.d hv))) (hs _ _)
theorem Op.items {value slice : Expr} {x : Str} {k : Int} {ch : Nat} (h0 : 0 ≤ k) (hk : k < 2 ^ 62) (hx : x.cps[k.toNat]? = some ch) (hs : PlainSub slice := by intro _ _; rfl) : Op W d (stail value slice) [.d (.str x), .d (.int k)] β (.str ⟨#[ch]⟩) β := fun A M ba s vs E Q c p q => by
  obtain ⟨v, u, rfl, pa, pb⟩ := p.two
  obtain ⟨t, rfl⟩ := pa.str
  obtain ⟨u, rfl⟩ := pb.int
  refine tail_any (typeIs_str _ _ _) PySem.F.slot_str_getitem.lookup (PyProof.Rows.getItem_str (by simp; omega) (c := ch) ?_ (q.tok c rfl (.d (.str _ _)) _)) (hs _ _)
  have hlt : k.toNat < x.cps.size := by
    rcases Nat.lt_or_ge k.toNat x.cps.size with h | h
    · exact h
    · rw [Array.getElem?_eq_none h] at hx; cases hx
  have : seqIndex? k x.length = some k.toNat := by
    unfold seqIndex?
    have : x.length = x.cps.size := rfl
    simp; omega
  rw [this]; exact hx
end
end
end Sw

namespace Sw
section
section
variable {W : Wd} {d : Nat} {σ : Vars} {β : Bk}
structure EvP (W : Wd) (d : Nat) (σ : Vars) (β : Bk) (e : Option Expr) (i : Option Int) : Prop where
  run : ∀ A env O M ba s E Q, St W d A env σ O M ba β s → (∀ v h' tk, Co W d A M ba β { s with heap := h', toks := tk } → Kp ba s.heap h' → IsPart v i → Q v { s with heap := h', toks := tk }) → wpAny W.md A (evalPart e env) Q E s
theorem EvP.none : EvP W d σ β none none := .mk fun A env O M ba s E Q t q => wpAny_pure (q _ s.heap s.toks t.co (Kp.refl _ _) .none)
theorem EvP.some {e i} (x : Ev W d σ β e (.int i) β) : EvP W d σ β (some e) (some i) := .mk fun A env O M ba s E Q t q =>
  x.run A env O M ba s E Q t fun v h' tk c k r => by
    cases r with
    | val p => obtain ⟨t, rfl⟩ := p.int; exact q _ h' tk c k (.int _ _)

noncomputable def pickD (xs : List PyData) (lo hi st : Option Int) : List PyData := (sliceRange (sliceBounds lo hi st xs.length).1 (sliceBounds lo hi st xs.length).2.1 (sliceBounds lo hi st xs.length).2.2).filterMap (xs[·]?)
theorem VRs.pick {f : Fz} {vs : List Value} {xs : List PyData} (h : VRs f vs xs) : ∀ l : List Nat, VRs f (l.filterMap (vs[·]?)) (l.filterMap (xs[·]?))
  | [] => .nil
  | i :: r => by
    rw [List.filterMap_cons, List.filterMap_cons]
    cases e : xs[i]? with
    | none =>
      have : vs[i]? = Option.none := by
        rw [List.getElem?_eq_none_iff] at e ⊢; rw [h.length]; exact e
      rw [this]; exact VRs.pick h r
    | some x =>
      obtain ⟨v, e', hv⟩ := h.get e
      rw [e']; exact .cons hv (VRs.pick h r)
theorem slice_vrs {f : Fz} {us : Array Value} {xs : List PyData} (h : VRs f us.toList xs) (lo hi st : Option Int) : VRs f (slicePick us lo hi st).toList (pickD xs lo hi st) := by
  have e : us.size = xs.length := by rw [← Array.length_toList, h.length]
  unfold slicePick pickD
  rw [e]
  simpa using h.pick (sliceRange (sliceBounds lo hi st xs.length).1 (sliceBounds lo hi st xs.length).2.1 (sliceBounds lo hi st xs.length).2.2)
theorem pickD_eq (g : PyData → Value) (hg : ∀ x y, g x = g y → x = y) (xs : List PyData) (lo hi st : Option Int) : (pickD xs lo hi st).map g = (slicePick (xs.map g).toArray lo hi st).toList := by
  unfold slicePick pickD
  rw [List.size_toArray, List.length_map]
  simp [List.map_filterMap]

theorem Ev.slice {value lo up st p pos r xs l u w} {β1} (a : Ev W d σ β value r β1) (hr : r.pv = .d (.list xs)) (el : EvP W d σ β1 lo l) (eu : EvP W d σ β1 up u) (es : EvP W d σ β1 st w) (h0 : w ≠ Option.some 0) (hsz : xs.length ≤ 2 ^ 24)
    (hs : ∀ o i, ∃ ops, subscripted (.Slice lo up st p) false o i = operate ops (getItem o i) := by intro _ _; exact ⟨_, rfl⟩) :
    Ev W d σ β (.Subscript value (.Slice lo up st p) pos) (.new (pickD xs l u w)) β1 := .mk fun A env O M ba s E Q t q => by
  refine Subscript_ (a.run A env O M ba s E _ t fun v h1 tk1 c1 k1 r1 => ?_)
  have t1 := t.step c1 k1
  refine wpAny_Slice (el.run A env O M ba _ E _ t1 fun v2 h2 tk2 c2 k2 p2 => eu.run A env O M ba _ E _ (t1.step c2 k2) fun v3 h3 tk3 c3 k3 p3 => es.run A env O M ba _ E _ ((t1.step c2 k2).step c3 k3) fun v4 h4 tk4 c4 k4 p4 => ?_)
  obtain ⟨c5, k5, hn, hs5, hf⟩ := push_new c4 { cls := .type "slice", data := .fields #[v2, v3, v4] } rfl tk4
  have pv := r1.pr t.co
  rw [hr] at pv
  have pv := pv.mono ((c1.fle k2).trans ((c2.fle k3).trans ((c3.fle k4).trans (c4.fle k5))))
  obtain ⟨la, us, rfl, hl, hu, _⟩ := pv.list
  obtain ⟨ops, ho⟩ := hs (.ref la) (.ref h4.objs.size)
  have e : us.size = xs.length := by rw [← Array.length_toList, hu.length]
  refine tail_any hl.typeIs slot_list_getitem.lookup (wpAny_getItem_list_slice hl ⟨_, hs5, rfl, rfl⟩ p2 p3 p4 h0 ?_ (by rw [sizeLine_eq, e]; exact hsz)) ho
  have fin := new_at c5 (slice_vrs hu l u w)
  have kk := (k1.trans (k2.trans (k3.trans (k4.trans k5))))
  obtain ⟨c6, k6, _⟩ := push_new c5 { cls := .type "list", data := .seq (slicePick us l u w) } rfl tk4
  exact q _ _ _ c6 (kk.trans k6) (RR.later (s := s) t.co c5 kk (by simpa using fin))

theorem Ev.sliceS {x : String} {l : Loc} {y : Str} {np up p pos n} (hx : (⟨x, l, .fz (.d (.str y))⟩ : Var) ∈ σ) (eu : Ev W d σ β up (.int n) β) (hsz : y.length ≤ 2 ^ 24) :
    Ev W d σ β (.Subscript (.Name (Str.ofString x) np) (.Slice none (some up) none p) pos) (.str (Txt.slice y none (some n))) β := .mk fun A env O M ba s E Q t q => by
  refine Subscript_Slice ((Ev.var hx).run A env O M ba s E _ t fun v h1 tk1 c1 k1 r1 => ?_)
  have t1 := t.step c1 k1
  refine wpAny_Slice (wpAny_pure (eu.run A env O M ba _ E _ t1 fun v2 h2 tk2 c2 k2 r2 => wpAny_pure ?_))
  cases r1 with
  | val r1 =>
    cases r2 with
    | val r2 =>
      obtain ⟨ty, rfl⟩ := r1.str
      obtain ⟨tn, rfl⟩ := r2.int
      refine SBH.sliceItem_ns (P := fun h => ∀ b o, h2.get? b = some o → h.get? b = some o) (s := { s with heap := h2, toks := tk2 }) (fun h ob k b o e => Heap.get?_push_of_some _ (k b o e)) (fun _ _ e => e) (fun h' t' k K => ?_) (by rw [sizeLine_eq]; exact hsz)
      exact q _ h' k (c2.step k K) ((k1.trans k2).trans (Kp.of_all K)) (.val (.d (.str _ _)))
end
end
end Sw

namespace Sw
section
noncomputable def Slot.peek : Slot → Slot
  | .own xs => .fz (.d (.list xs))
  | s => s
noncomputable def Vars.peek (σ : Vars) : Vars := σ.map fun v => ⟨v.name, v.at_, v.slot.peek⟩

theorem kind_same {env : Env} {h : Heap} {M ba O x l ul us v} (hk : Kind env (Str.ofString x) l) (hh : Has env h (Str.ofString x) v l) (hu : SlotOk env h M ba O x ul us) : Kind env (Str.ofString x) ul ∧ Has env h (Str.ofString x) v ul := by
  have kg : us = .glob ∨ Kind env (Str.ofString x) ul := by by_cases z : us = .glob; exact .inl z; exact .inr (hu.kind z)
  rcases kg with z | kk
  · subst z
    cases hu with
    | glob gk =>
      exfalso
      cases l with
      | loc => rw [show env.kindOf (Str.ofString x) = some .local from hk] at gk; cases gk
      | cell => have := hk.1; rw [gk] at this; cases this
      | free => rcases hk.1 with z | z <;> (rw [gk] at z; cases z)
  · refine ⟨kk, ?_⟩
    cases l with
    | loc =>
      cases ul with
      | loc => exact hh
      | cell => have h1 := kk.1; rw [show env.kindOf (Str.ofString x) = some .local from hk] at h1; cases h1
      | free => have h1 := kk.1; rw [show env.kindOf (Str.ofString x) = some .local from hk] at h1; rcases h1 with h1 | h1 <;> cases h1
    | cell =>
      cases ul with
      | loc => have h1 := hk.1; rw [show env.kindOf (Str.ofString x) = some .local from kk] at h1; cases h1
      | cell => exact hh
      | free => exact hh
    | free =>
      cases ul with
      | loc => have h1 := hk.1; rw [show env.kindOf (Str.ofString x) = some .local from kk] at h1; rcases h1 with h1 | h1 <;> cases h1
      | cell => exact hh
      | free => exact hh

/-- data that hold no list -/
inductive Flat : PyData → Prop
  | none : Flat .none
  | int (i) : Flat (.int i)
  | bool (i) : Flat (.bool i)
  | str (i) : Flat (.str i)
  | tuple {xs} : (∀ x ∈ xs, Flat x) → Flat (.tuple xs)
inductive FlatR : Res → Prop
  | val {x} : Flat x → FlatR (.val (.d x))
  | new {xs} : (∀ x ∈ xs, Flat x) → FlatR (.new xs)
  | rng {a b c} : FlatR (.val (.rng a b c))

mutual
theorem VR.unpeek {h : Heap} {M M' : List Addr} (k : ∀ m ∈ M, m ∉ M' → ∃ vs n, h.get? m = some (lobj vs n)) : ∀ {v : Value} {x : PyData}, VR (frz h M') v x → Flat x → VR (frz h M) v x
  | _, _, .none, _ => .none
  | _, _, .bool b, _ => .bool b
  | _, _, .int i t, _ => .int i t
  | _, _, .str i t, _ => .str i t
  | _, _, .list a b c e, fl => by cases fl
  | _, _, .tuple a b c e, fl => by
    obtain ⟨na, ha⟩ := frz_some.mp a
    refine .tuple (frz_some.mpr ⟨fun z => ?_, ha⟩) b c (VRs.unpeek k e (by cases fl; assumption))
    obtain ⟨vs, n, e'⟩ := k _ z na
    rw [ha] at e'; cases e'; simp at b
theorem VRs.unpeek {h : Heap} {M M' : List Addr} (k : ∀ m ∈ M, m ∉ M' → ∃ vs n, h.get? m = some (lobj vs n)) : ∀ {vs : List Value} {xs : List PyData}, VRs (frz h M') vs xs → (∀ x ∈ xs, Flat x) → VRs (frz h M) vs xs
  | _, _, .nil, _ => .nil
  | _, _, .cons a b, fl => .cons (VR.unpeek k a (fl _ List.mem_cons_self)) (VRs.unpeek k b fun x hx => fl x (List.mem_cons_of_mem _ hx))
end

theorem St.peek {W d A env σ O M ba β} {s : Shared} (t : St W d A env σ O M ba β s) : ∃ M', St W d A env σ.peek [] M' ba β s ∧ (∀ m ∈ M', m ∈ M) ∧ (∀ m ∈ M, m ∉ M' → ∃ vs n, s.heap.get? m = some (lobj vs n)) := by
  classical
  have mem : ∀ {m}, m ∈ M → (∀ vs n, s.heap.get? m ≠ some (lobj vs n)) → m ∈ M.filter (fun m => decide (¬ ∃ vs n, s.heap.get? m = some (lobj vs n))) := fun {m} h k => List.mem_filter.mpr ⟨h, by simpa using k⟩
  have sub : ∀ m ∈ M.filter (fun m => decide (¬ ∃ vs n, s.heap.get? m = some (lobj vs n))), m ∈ M := fun m hm => (List.mem_filter.mp hm).1
  have le := frz_sub (h := s.heap) sub
  obtain ⟨m0, nL⟩ := t.ns
  refine ⟨M.filter fun m => decide (¬ ∃ vs n, s.heap.get? m = some (lobj vs n)), ⟨t.co.sub sub fun a e => mem (by subst e; exact t.co.ba_mem) fun vs n z => t.co.book.not_list z e, t.kind, t.glob, t.blt, t.apart, mem t.lm fun vs n z => ns_not_list nL z, t.ns,
    fun x c hc => mem (t.cm x c hc) fun vs n z => let ⟨v, y⟩ := t.cc x c hc; cell_not_list y z, t.cc, t.cinj, fun v hv => ?_, fun v hv => ?_⟩, sub, fun m hm hn => ?_⟩
  · obtain ⟨u, hu, rfl⟩ := List.mem_map.mp hv
    have z := t.names u hu; exact z
  · obtain ⟨⟨un, ul, us⟩, hu, rfl⟩ := List.mem_map.mp hv
    have y : SlotOk env s.heap M ba O un ul us := t.vars _ hu
    cases y with
    | unb a => exact .unb a
    | fz a b c => exact .fz a b (c.mono le)
    | @own a k vs xs p q r w e f => exact .fz p q (.d (.list (frz_some.mpr ⟨fun z => by
        have := (List.mem_filter.mp z).2
        simp at this
        exact this _ _ e, e⟩) rfl rfl (f.mono le)))
    | glob a => exact .glob a
  · have : ¬ ¬ ∃ vs n, s.heap.get? m = some (lobj vs n) := fun z => hn (List.mem_filter.mpr ⟨hm, by simpa using z⟩)
    exact Classical.not_not.mp this

theorem Co.unpeek {W d A M M' ba β β'} {s : Shared} (c : Co W d A M ba β s) {h' : Heap} {tk : Nat} (c' : Co W d A M' ba β' { s with heap := h', toks := tk }) (k : Kp ba s.heap h') (sub : ∀ m ∈ M', m ∈ M) : Co W d A M ba β' { s with heap := h', toks := tk } :=
  ⟨c.hand, c.room, c.units, fun b o e => ⟨(c'.base b o e).1, (c.base b o e).2⟩, fun m hm => by
    by_cases z : ba = some m
    · have : m ∈ M' := by subst z; exact c'.ba_mem
      exact c'.live m this
    · obtain ⟨o, e⟩ := c.live m hm; exact ⟨o, k m o e z⟩, by
    have b := c'.book
    cases ba with
    | none => trivial
    | some a => exact ⟨sub a b.1, b.2⟩⟩

theorem Ev.peek {W d σ β e r β'} (x : Ev W d σ.peek β e r β') (fr : FlatR r) : Ev W d σ β e r β' := .mk fun A env O M ba s E Q t q => by
  obtain ⟨M', t', sub, off⟩ := t.peek
  refine x.run A env [] M' ba s E Q t' fun v h' tk c k rr => ?_
  refine q v h' tk (t.co.unpeek c k sub) k ?_
  have off' : ∀ m ∈ M, m ∉ M' → ∃ vs n, h'.get? m = some (lobj vs n) := fun m hm hn => by
    obtain ⟨vs, n, e⟩ := off m hm hn
    exact ⟨vs, n, k m _ e (t.co.book.not_list e)⟩
  cases fr with
  | val fl => cases rr with | val p => exact .val (.d (p.out.unpeek off' fl))
  | rng =>
    cases rr with
    | val p =>
      cases p with
      | rng a =>
        obtain ⟨na, ha⟩ := frz_some.mp a
        refine .val (.rng (frz_some.mpr ⟨fun z => ?_, ha⟩))
        obtain ⟨vs, n, e'⟩ := off' _ z na
        rw [ha] at e'; simp [lobj] at e'
  | new fl =>
    cases rr with
    | @new a k0 vs _ hn ho hr =>
      refine .new hn ho (hr.unpeek (fun m hm hmn => ?_) fl)
      rcases List.mem_cons.mp hm with rfl | hm
      · exact absurd List.mem_cons_self hmn
      · exact off' m hm fun z => hmn (List.mem_cons_of_mem _ z)
theorem Et.peek {W d σ β e b β'} (x : Et W d σ.peek β e b β') : Et W d σ β e b β' := .mk fun A env O M ba s E Q t q => by
  obtain ⟨M', t', sub, off⟩ := t.peek
  exact x.run A env [] M' ba s E Q t' fun h' tk c k => q h' tk (t.co.unpeek c k sub) k

/-- a list of the frame's own changes -/
theorem Act.mut {W d A env σ O M ba β g N} {s : Shared} (t : Act W d A env σ O M ba β s g N) {x : String} {l : Loc} {xs xs' : List PyData} {a : Addr} {vs vs' : Array Value} {k k' : Nat} (hk : Kind env (Str.ofString x) l) (hh : Has env s.heap (Str.ofString x) (.ref a) l) (hO : (x, a) ∈ O)
    (ho : s.heap.get? a = some (lobj vs k)) {h' : Heap} (hs : Heap.SameBut a s.heap h') (ho' : h'.get? a = some (lobj vs' k')) (hr : VRs (frz s.heap M) vs'.toList xs') (hx : (⟨x, l, .own xs⟩ : Var) ∈ σ) (tk : Nat) :
    Act W d A env (σ.put x (.own xs')) O M ba β { s with heap := h', toks := tk } g N := by
  have haM := t.om x a hO
  have hba : ba ≠ some a := t.st.co.book.not_list ho
  obtain ⟨c', le⟩ := t.st.co.but haM hba hs ⟨_, ho'⟩ tk
  have k' : ∀ b o, b ≠ a → s.heap.get? b = some o → h'.get? b = some o := fun b o n e => (hs.2 b n).trans e
  have nsne : ∀ {b m}, s.heap.Ns b m → b ≠ a := fun {b m} n z => ns_not_list n (z ▸ ho)
  have cellne : ∀ {b v}, s.heap.IsCell b v → b ≠ a := fun {b v} n z => cell_not_list n (z ▸ ho)
  have ns' : ∀ {b m}, s.heap.Ns b m → h'.Ns b m := fun {b m} n => n.at' fun o e => k' b o (nsne n) e
  have cell' : ∀ {b w}, s.heap.IsCell b w → h'.IsCell b w := fun {b w} y => let ⟨o, p, q⟩ := y; ⟨o, k' b o (cellne y) p, q⟩
  have has' : ∀ {y v ul}, Has env s.heap y v ul → Has env h' y v ul := fun {y v ul} z => by
    cases ul with
    | loc => obtain ⟨m, n, e⟩ := z; exact ⟨m, ns' n, e⟩
    | cell => obtain ⟨c, e, z⟩ := z; exact ⟨c, e, cell' z⟩
    | free => obtain ⟨c, e, z⟩ := z; exact ⟨c, e, cell' z⟩
  refine ⟨⟨c', t.st.kind, t.st.glob, t.st.blt, t.st.apart, t.st.lm, let ⟨m, n⟩ := t.st.ns; ⟨m, ns' n⟩, t.st.cm, fun y c hc => let ⟨v, w⟩ := t.st.cc y c hc; ⟨v, cell' w⟩, t.st.cinj, fun v hv => ?_, fun v hv => ?_⟩,
    fun b o e => k' b o (fun z => by subst z; rw [t.go x b hO] at e; cases e) (t.keep b o e), t.gL, t.gc, t.go, t.gb, t.nm, t.on, t.oinj, t.om, t.gm⟩
  · rcases Vars.mem_put hv with ⟨u, hu, e, rfl⟩ | ⟨hu, _⟩
    · have z := t.st.names _ hx; exact z
    · exact t.st.names _ hu
  · rcases Vars.mem_put hv with ⟨u, hu, e, rfl⟩ | ⟨hu, hne⟩
    · obtain ⟨un, ul, us⟩ := u
      cases e
      have hu' : SlotOk env s.heap M ba O un ul us := t.st.vars _ hu
      obtain ⟨kk, hh'⟩ := kind_same hk hh hu'
      exact .own kk (has' hh') hO haM ho' (hr.mono le)
    · obtain ⟨vn, vl, vs'⟩ := v
      have hu' : SlotOk env s.heap M ba O vn vl vs' := t.st.vars _ hu
      show SlotOk env h' M ba O vn vl vs'
      cases hu' with
      | unb q => exact .unb q
      | fz q r w => exact .fz q (has' r) (w.mono le)
      | @own b _ _ _ q r w z e f =>
        have hbne : b ≠ a := fun zz => hne (t.oinj vn x a (zz ▸ w) hO)
        exact .own q (has' r) w z (k' _ _ hbne e) (f.mono le)
      | glob q => exact .glob q

/-- a name that holds an own list -/
theorem own_name {W d A env σ O M ba β} {s : Shared} (t : St W d A env σ O M ba β s) {x : String} {l : Loc} {xs : List PyData} (hx : (⟨x, l, .own xs⟩ : Var) ∈ σ) {pos : Pos} {E : Value → Shared → Prop} {Q : Value → Shared → Prop}
    (q : ∀ a k vs, Kind env (Str.ofString x) l → Has env s.heap (Str.ofString x) (.ref a) l → (x, a) ∈ O → a ∈ M → s.heap.get? a = some (lobj vs k) → VRs (frz s.heap M) vs.toList xs → Q (.ref a) s) : wpAny W.md A (eval (.Name (Str.ofString x) pos) env) Q E s := by
  have nm := t.names _ hx
  refine wpAny_Name ?_ nm.1
  have y : SlotOk env s.heap M ba O x l (.own xs) := t.vars _ hx
  cases y with
  | own a b c d e f =>
    have fin := q _ _ _ a b c d e f
    cases l with
    | loc => obtain ⟨m, n, e⟩ := b; exact wpAny_loadName_local t.kind a n e fin
    | cell => obtain ⟨m, n, e⟩ := b; exact wpAny_loadName_cell t.kind a.1 n e fin
    | free =>
      obtain ⟨m, n, e⟩ := b
      rcases a.1 with a | a
      · exact wpAny_loadName_cell t.kind a n e fin
      · exact wpAny_loadName_free t.kind a n e fin nm.2
end
end Sw

namespace Sw
section
section
variable {W : Wd} {d : Nat} {σ : Vars} {β β' : Bk}

theorem own_meth {x m : String} {l : Loc} {xs : List PyData} {e : Expr} {np ap cp pos : Pos} {id : String} {pl : Env → Sem Bool} {A env O M ba s g N E} {Q : Flow → Shared → Prop} (t : Act W d A env σ O M ba β s g N) (hx : (⟨x, l, .own xs⟩ : Var) ∈ σ)
    (gm : ∀ (a : Addr) (o : Obj) (s : Shared) (Q : Value × List Value → Shared → Prop), s.heap.get? a = some o → o.cls = .type "list" → o.dict = none → Q (.builtin id, [.ref a]) s → wpAny W.md A (getMethod (.ref a) (Str.ofString m) (pl env)) Q E s)
    (he : eval (.Call (.Attribute (.Name (Str.ofString x) np) (Str.ofString m) ap) [e] [] cp) env = (do
      let ov ← eval (.Name (Str.ofString x) np) env
      standAt ap.atName
      let (f, first) ← holding [ov] (getMethod ov (Str.ofString m) (pl env))
      callWith cp f first (backTo cp (starEach [e] env)) (backToKw cp (keywordEach [] env)))) (hs : ([e]).all (fun e => !isStarred e) = true) (hi : interactive env = false)
    (hsw : swapsWith (.Call (.Attribute (.Name (Str.ofString x) np) (Str.ofString m) ap) [e] [] cp) none pos.line env = pure false)
    (q : ∀ a k vs, Kind env (Str.ofString x) l → Has env s.heap (Str.ofString x) (.ref a) l → (x, a) ∈ O → a ∈ M → s.heap.get? a = some (lobj vs k) → VRs (frz s.heap M) vs.toList xs →
      wpAny W.md A (eval e env) (fun v s₁ => (∀ b o, W.h0.get? b = some o → s₁.heap.get? b = some o) ∧ wpAny W.md A (call (.builtin id) [.ref a, v]) (fun r s' => r = .none ∧ Q .next s') E s₁) E s) :
    wpAny W.md A (exec (.Expr (.Call (.Attribute (.Name (Str.ofString x) np) (Str.ofString m) ap) [e] [] cp) pos) env) Q E s := by
  refine wpAny_Expr ?_ hi hsw
  refine methodCall_KW (pl := pl env) ?_ he
  refine own_name t.st hx fun a k vs hk hh hO haM ho hr => ?_
  refine gm a _ s _ ho rfl rfl ?_
  have this := (plain_args (env := env) (pos := cp) hs).2 e [] rfl
  refine callWith_any hs (KeepOk.builtin (W := W)) (args_cons (wpAny_mono (q a k vs hk hh hO haM ho hr) (fun v s₁ h₁ => args_nil ⟨h₁.1, wpAny_mono h₁.2 (fun r s' hq => by obtain ⟨rfl, hq⟩ := hq; exact hq) fun _ _ x => x⟩) fun _ _ x => x) this)

theorem fnot_interactive {A env O M ba s} (t : St W d A env σ O M ba β s) : interactive env = false := by
  unfold interactive
  rw [t.kind]; rfl
theorem X1.append {x : String} {l : Loc} {xs : List PyData} {e : Expr} {q : PyData} {np ap cp pos : Pos} (hx : (⟨x, l, .own xs⟩ : Var) ∈ σ) (a : Ev W d σ β e (.dat q) β') (hsz : xs.length ≤ 2 ^ 20)
    {pl : Env → Sem Bool} (he : ∀ env, eval (.Call (.Attribute (.Name (Str.ofString x) np) (Str.ofString "append") ap) [e] [] cp) env = (do
      let ov ← eval (.Name (Str.ofString x) np) env
      standAt ap.atName
      let (f, first) ← holding [ov] (getMethod ov (Str.ofString "append") (pl env))
      callWith cp f first (backTo cp (starEach [e] env)) (backToKw cp (keywordEach [] env))) := by intro _; rfl) (hs : ([e]).all (fun e => !isStarred e) = true := by rfl)
    (hsw : ∀ env, swapsWith (.Call (.Attribute (.Name (Str.ofString x) np) (Str.ofString "append") ap) [e] [] cp) none pos.line env = pure false := by intro _; rfl) :
    X1 W d σ β (.Expr (.Call (.Attribute (.Name (Str.ofString x) np) (Str.ofString "append") ap) [e] [] cp) pos) (.next (σ.put x (.own (xs ++ [q])))) β' := .mk fun A env O M ba s g N E Q t qq => by
  refine own_meth (id := "list.append") (pl := pl) t hx (fun a o s Q ho hc hd h => getMethod_list_append ho hc hd h) (he env) hs (fnot_interactive t.st) (hsw env) fun al k vs hk hh hO haM ho hr => ?_
  refine a.run A env O M ba s E _ t.st fun v h1 tk1 c1 k1 r1 => ⟨fun b o e => (c1.base b o e).1, ?_⟩
  have t1 := t.step c1 k1
  have nb : ba ≠ some al := t.st.co.book.not_list ho
  have ho1 : h1.get? al = some (lobj vs k) := k1 al _ ho nb
  have hlen : vs.size = xs.length := by rw [← Array.length_toList, hr.length]
  refine append_at (s := { s with heap := h1, toks := tk1 }) ho1 (fun h2 hs2 ho2 => ⟨rfl, ?_⟩) (by rw [sizeLine_eq, hlen]; omega)
  have hv : VR (frz h1 M) v q := (r1.pr t.st.co).out
  have hr1 : VRs (frz h1 M) vs.toList xs := hr.mono (t.st.co.fle k1)
  have hh1 : Has env h1 (Str.ofString x) (.ref al) l := hh.kp t.st.co.book t.st.apart k1
  have m := t1.mut (xs' := xs ++ [q]) hk hh1 hO ho1 hs2 ho2 (by simpa using (VRs.one hv).append hr1) hx tk1
  exact qq _ O M h2 tk1 m .next

theorem X1.extend {x : String} {l : Loc} {xs ys : List PyData} {e : Expr} {np ap cp pos : Pos} (hx : (⟨x, l, .own xs⟩ : Var) ∈ σ) (a : Ev W d σ β e (.new ys) β') (hsz : xs.length + ys.length ≤ 2 ^ 20)
    {pl : Env → Sem Bool} (he : ∀ env, eval (.Call (.Attribute (.Name (Str.ofString x) np) (Str.ofString "extend") ap) [e] [] cp) env = (do
      let ov ← eval (.Name (Str.ofString x) np) env
      standAt ap.atName
      let (f, first) ← holding [ov] (getMethod ov (Str.ofString "extend") (pl env))
      callWith cp f first (backTo cp (starEach [e] env)) (backToKw cp (keywordEach [] env))) := by intro _; rfl) (hs : ([e]).all (fun e => !isStarred e) = true := by rfl)
    (hsw : ∀ env, swapsWith (.Call (.Attribute (.Name (Str.ofString x) np) (Str.ofString "extend") ap) [e] [] cp) none pos.line env = pure false := by intro _; rfl) :
    X1 W d σ β (.Expr (.Call (.Attribute (.Name (Str.ofString x) np) (Str.ofString "extend") ap) [e] [] cp) pos) (.next (σ.put x (.own (xs ++ ys)))) β' := .mk fun A env O M ba s g N E Q t qq => by
  refine own_meth (id := "list.extend") (pl := pl) t hx (fun a o s Q ho hc hd h => getMethod_builtin ⟨o, ho, hc⟩ PySem.F.plainAttrs_list PySem.F.slot_list_extend PySem.F.type_list_extend (fun b e => by cases e; exact ⟨o, ho, hd⟩) h) (he env) hs (fnot_interactive t.st) (hsw env) fun al k vs hk hh hO haM ho hr => ?_
  refine a.run A env O M ba s E _ t.st fun v h1 tk1 c1 k1 r1 => ⟨fun b o e => (c1.base b o e).1, ?_⟩
  have t1 := t.step c1 k1
  have nb : ba ≠ some al := t.st.co.book.not_list ho
  have ho1 : h1.get? al = some (lobj vs k) := k1 al _ ho nb
  have hlen : vs.size = xs.length := by rw [← Array.length_toList, hr.length]
  cases r1 with
  | @new bl k2 ws _ hn hob hrb =>
    have hlen2 : ws.size = ys.length := by rw [← Array.length_toList, hrb.length]
    have hsz' : vs.size + ws.size ≤ sizeLine := by rw [sizeLine_eq]; omega
    refine call_meets PySem.F.slot_list_extend ⟨_, ho1, rfl⟩ PySem.F.entry_list_extend (PySem.F.args_list_extend_2 _ _) (AutoSeq1.list_extend_list_list_0 al vs k bl ws k2 (extend_door hsz') (Nat.le_trans (Nat.le_add_right _ _) hsz')) ⟨ho1, hob, rfl, ?_⟩
    have ho2 : (h1.update al (Obj.mapSeq fun x => x ++ ws)).get? al = some (lobj (vs ++ ws) (if (vs ++ ws).size == vs.size then k else k + 1)) := by
      rw [Heap.get?_update_self _ ho1 (by rw [mapSeq_app]; rfl), mapSeq_app]
    have hr1 : VRs (frz h1 M) vs.toList xs := hr.mono (t.st.co.fle k1)
    have hh1 : Has env h1 (Str.ofString x) (.ref al) l := hh.kp t.st.co.book t.st.apart k1
    have m := t1.mut (xs' := xs ++ ys) hk hh1 hO ho1 (Heap.SameBut.update ..) ho2 (by simpa using (hrb.mono frz_cons).append hr1) hx tk1
    exact qq _ O M _ tk1 m .next

theorem X1.setItem {x : String} {l : Loc} {xs : List PyData} {e i : Expr} {q : PyData} {n : Int} {np sp pos : Pos} {β1 : Bk} (hx : (⟨x, l, .own xs⟩ : Var) ∈ σ) (a : Ev W d σ β e (.dat q) β1) (b : Ev W d σ β1 i (.int n) β') (h0 : 0 ≤ n) (h1 : n < xs.length) (hsz : xs.length ≤ 2 ^ 20)
    (hs : ∀ env, swapsWith e (some (.Subscript (.Name (Str.ofString x) np) i sp)) pos.line env = pure false := by intro _; rfl) :
    X1 W d σ β (.Assign [.Subscript (.Name (Str.ofString x) np) i sp] e pos) (.next (σ.put x (.own (xs.set n.toNat q)))) β' := .mk fun A env O M ba s g N E Q t qq => by
  refine wpAny_Assign_Subscript (a.run A env O M ba s E _ t.st fun v h1 tk1 c1 k1 r1 => ?_) (hs env)
  have t1 := t.step c1 k1
  refine own_name t1.st hx fun al k vs hk hh hO haM ho hr => ?_
  refine b.run A env O M ba _ E _ t1.st fun iv h2 tk2 c2 k2 r2 => ?_
  have t2 := t1.step c2 k2
  cases r2 with
  | val r2 =>
    obtain ⟨ti, rfl⟩ := r2.int
    have nb : ba ≠ some al := t1.st.co.book.not_list ho
    have ho2 : h2.get? al = some (lobj vs k) := k2 al _ ho nb
    have hlen : vs.size = xs.length := by rw [← Array.length_toList, hr.length]
    refine ki_setAt (s := { s with heap := h2, toks := tk2 }) ho2 h0 (by omega) (by omega) ?_
    have hr2 : VRs (frz h2 M) vs.toList xs := hr.mono (t1.st.co.fle k2)
    have hv : VR (frz h2 M) v q := (r1.pr t.st.co).out.mono (t1.st.co.fle k2)
    have hh2 : Has env h2 (Str.ofString x) (.ref al) l := hh.kp t1.st.co.book t1.st.apart k2
    have hset : ∀ (j : Nat) {ws : List Value} {ys : List PyData}, VRs (frz h2 M) ws ys → VRs (frz h2 M) (ws.set j v) (ys.set j q) := by
      intro j
      induction j with
      | zero => intro ws ys h; cases h with | nil => exact .nil | cons a b => exact .cons hv b
      | succ j ih => intro ws ys h; cases h with | nil => exact .nil | cons a b => exact .cons a (ih b)
    have ho3 : (h2.update al (Obj.mapSeq (·.setIfInBounds n.toNat v))).get? al = some (lobj (vs.setIfInBounds n.toNat v) k) := by
      have := PySem.IsL.update (n := k) ho2 (·.setIfInBounds n.toNat v)
      simpa [PySem.IsL] using this
    have m := t2.mut (xs' := xs.set n.toNat q) hk hh2 hO ho2 (Heap.SameBut.update ..) ho3 (by simpa using hset n.toNat hr2) hx tk2
    exact qq _ O M _ tk2 m .next

theorem X1.unpack {e : Expr} {es : List Expr} {k : Nat} {ds : List PyData} {σ' : Vars} {tp pos : Pos} {r : Res} (a : Ev W d σ β e r β') (hr : r.pv = .d (.tuple ds)) (h : SetN σ es ds σ')
    (hs : ∀ env, swapsWithSole [.Tuple es k tp] e pos.line env = pure false := by intro _; rfl) (hw : ∀ env, swappedStores [.Tuple es k tp] e env = pure none := by intro _; rfl) :
    X1 W d σ β (.Assign [.Tuple es k tp] e pos) (.next σ') β' := .mk fun A env O M ba s g N E Q t qq => by
  refine Assign_Tuple (a.run A env O M ba s E _ t.st fun v h1 tk1 c1 k1 r1 => ?_) (hs env) (hw env)
  exact act_assign (t.step c1 k1) (.tuple h) (by rw [← hr]; exact r1.pr t.st.co) fun h2 tk2 t2 => qq _ O M h2 tk2 t2 .next

theorem X1.xor {x : String} {l : Loc} {i j : Int} {e : Expr} {np pos : Pos} (hx : (⟨x, l, .fz (.d (.int i))⟩ : Var) ∈ σ) (hl : l = .loc) (a : Ev W d σ β e (.int j) β') :
    X1 W d σ β (.AugAssign (.Name (Str.ofString x) np) .BitXor e pos) (.next (σ.put x (.fz (.d (.int (Builtin.bitXor i j)))))) β' := .mk fun A env O M ba s g N E Q t qq => by
  subst hl
  rw [arm_exec_AugAssign]
  refine wpAny_bind (wpAny_standAt (wpAny_bind ?_))
  have y : SlotOk env s.heap M ba O x .loc (.fz (.d (.int i))) := t.st.vars _ hx
  cases y with
  | fz ka hb hc =>
    obtain ⟨m, n, e⟩ := hb
    refine wpAny_loadName_local t.st.kind ka n e (wpAny_bind (wpAny_holding ?_))
    obtain ⟨ti, rfl⟩ := hc.int
    refine a.run A env O M ba s E _ t.st fun v h1 tk1 c1 k1 r1 => ?_
    cases r1 with
    | val r1 =>
      obtain ⟨tj, rfl⟩ := r1.int
      refine wpAny_bind (wpAny_standAt (wpAny_bind (wpAny_operating (PyProof.Rows.ixor_int ?_))))
      refine wpAny_bind (wpAny_standAt (wpAny_bind ?_))
      have t1 : Act W d A env σ O M ba β' { s with heap := h1, toks := tk1 + 1 } g N := t.step (c1.toks (tk1 + 1)) k1
      refine wpAny_bindName ?_
      exact act_store t1 hx (by simp) (by simp) (.d (.int _ _)) fun h2 tk2 t2 => wpAny_pure (qq _ O M h2 tk2 t2 .next)
end
end
end Sw

namespace Sw
section
noncomputable def tops : List Stmt := PySem.Challenge.pw_sn0029_01.main.body
noncomputable def fbody : Nat → List Stmt → List Stmt
  | 0, .FunctionDef _ _ b _ _ _ _ _ _ _ :: _ => b
  | 0, .ClassDef _ _ _ b _ _ _ _ _ _ _ :: _ => b
  | n + 1, _ :: r => fbody n r
  | _, _ => []
noncomputable def fscope : Nat → List Stmt → Scope
  | 0, .FunctionDef _ _ _ _ _ _ s _ _ _ :: _ => s
  | n + 1, _ :: r => fscope n r
  | _, _ => { kind := .function, names := [], isGenerator := false, isCoroutine := false }

section
variable {W : Wd} {d : Nat} {σ : Vars} {β : Bk}
theorem Ev.bink (p q : Res) {x : Res} {l r op pos} (a : Ev W d σ β l p β) (b : Ev W d σ β r q β) (o : Op W d (bop op) [p.pv, q.pv] β x β) : Ev W d σ β (.BinOp l op r pos) x β := Ev.bin a b o
theorem Ev.cmpk (p q : Res) {x : Res} {l r op pos} (a : Ev W d σ β l p β) (b : Ev W d σ β r q β) (o : Op W d (cop op) [p.pv, q.pv] β x β) (hm : behindInMarks op r = false := by rfl) : Ev W d σ β (.Compare l [op] [r] pos) x β := Ev.cmp a b o hm
theorem Et.cmpk (p q : Res) {x : Bool} {l r op pos} (a : Ev W d σ β l p β) (b : Ev W d σ β r q β) (o : Op W d (cop op) [p.pv, q.pv] β (.bool x) β) (hm : behindInMarks op r = false := by rfl) : Et W d σ β (.Compare l [op] [r] pos) x β := Et.cmp a b o hm
theorem Ev.subk (p q : Res) {x : Res} {value slice pos} (a : Ev W d σ β value p β) (b : Ev W d σ β slice q β) (o : Op W d (stail value slice) [p.pv, q.pv] β x β) : Ev W d σ β (.Subscript value slice pos) x β := Ev.sub a b o
theorem Ev.callk {x l e es np pos} {ps : List PV} {r : Res} (h : (⟨x, l, .glob⟩ : Var) ∈ σ) (a : Evs W d σ β (e :: es) ps β) (f : Fn W d x ps β r β) (hs : (e :: es).all (fun e => !isStarred e) = true := by rfl) : Ev W d σ β (.Call (.Name (Str.ofString x) np) (e :: es) [] pos) r β := Ev.call h a f hs
theorem Evs.consk (r : Res) {e es ps} (x : Ev W d σ β e r β) (y : Evs W d σ β es ps β) (he : ∀ env, starEach (e :: es) env = (false, eval e env) :: starEach es env := by intro _; rfl) : Evs W d σ β (e :: es) (r.pv :: ps) β := Evs.cons x y he
end


end
end Sw

namespace Sw
section
theorem re_plainAttrs : PlainAttrs "re.Pattern" :=
  ⟨⟨"object.__getattribute__", by rw [typeLookup_type, builtinLookup_eq_fast]; kernel_rfl, by decide +kernel⟩, by rw [typeLookup_type, builtinLookup_eq_fast]; kernel_rfl⟩
theorem re_slot : PySem.Slot "re.Pattern" "sub" "re.Pattern.sub" :=
  .of (owner := "re.Pattern") (n := "sub") (by rw [typeLookup_type, builtinLookup_eq_fast]; kernel_rfl) (by decide +kernel) (by decide +kernel) (by decide +kernel)
    (by first | exact .inl (by decide +kernel) | exact .inr (by decide +kernel)) (by rw [isSubtype_type]; kernel_rfl)
theorem re_type : typeOf (.builtin "re.Pattern.sub") = pure (.type "method_descriptor") := by show builtinType _ = _; rw [builtinType_eq_fast]; kernel_rfl
theorem re_entry : entryFor table "re.Pattern.sub" = some Builtin.«re.Pattern.sub» := entryFor_of_tree (by kernel_rfl)
theorem re_entry_loop : entryFor table "re.Pattern.sub.loop" = some Builtin.«re.Pattern.sub.loop» := entryFor_of_tree (by kernel_rfl)
theorem re_plain_loop : plainId "re.Pattern.sub.loop" = true := by decide +kernel
end
end Sw

namespace Sw
theorem re_owner : Manifest.owners.lookup (String.ofList ['n','r','e','t','t','a','P','.','e','r'].reverse) = some Manifest.sig_re_Pattern := by kernel_rfl
theorem re_args (a b c : Value) : argsOk "re.Pattern.sub" ⟨[a, b, c], []⟩ := by
  unfold argsOk; rw [signature?_of (id := "re.Pattern.sub") (n := ['b', 'u', 's']) (o := ['n','r','e','t','t','a','P','.','e','r']) (by kernel_rfl) re_owner]; kernel_rfl
end Sw
namespace Sw
section
open PySem.Sre

theorem runFor_stop {m : Sre.M} (h : m.outcome.isSome = true) : ∀ n, M.runFor n m = m
  | 0 => rfl
  | n + 1 => by unfold M.runFor; rw [if_pos h]
theorem runFor_add : ∀ (a b : Nat) (m : Sre.M), M.runFor (a + b) m = M.runFor b (M.runFor a m)
  | 0, b, m => by rw [Nat.zero_add]; rfl
  | a + 1, b, m => by
    rw [Nat.add_right_comm]
    by_cases h : m.outcome.isSome = true
    · rw [runFor_stop h, runFor_stop h, runFor_stop h]
    · show (if m.outcome.isSome then m else M.runFor (a + b) m.step) = M.runFor b (if m.outcome.isSome then m else M.runFor a m.step)
      rw [if_neg h, if_neg h]; exact runFor_add a b _
theorem runFor_more {m : Sre.M} {N : Nat} (h : (M.runFor N m).outcome.isSome = true) {K : Nat} (hk : N ≤ K) : M.runFor K m = M.runFor N m := by
  obtain ⟨d, rfl⟩ := Nat.le.dest hk
  rw [runFor_add, runFor_stop h]
theorem runFor_succ {m : Sre.M} (h : m.outcome = none) (n : Nat) : M.runFor (n + 1) m = M.runFor n m.step := by
  conv => lhs; unfold M.runFor
  rw [h]; rfl

section
variable {MM : Model} {A : Around} {E : Value → Shared → Prop} {s : Shared}
theorem wp_drive {Q : Sre.M → Shared → Prop} : ∀ (turns : Nat) (m : Sre.M) (N : Nat), 1 ≤ turns → N ≤ 4 * turns → (M.runFor N m).outcome.isSome = true → Q (M.runFor N m) s → wpAny MM A (Builtin.Re.reDrive turns m) Q E s
  | 0, _, _, h, _, _, _ => absurd h (by omega)
  | t + 1, m, N, _, hN, ho, q => by
    unfold Builtin.Re.reDrive
    by_cases h1 : (M.runFor Builtin.Re.reTurnSteps m).outcome.isSome = true
    · simp only [h1, if_true]
      have : M.runFor Builtin.Re.reTurnSteps m = M.runFor N m := by
        rcases Nat.le_total N Builtin.Re.reTurnSteps with h | h
        · exact runFor_more ho h
        · exact (runFor_more h1 h).symm
      rw [this]; exact wpAny_pure q
    · simp only [h1]
      have hN4 : ¬ N ≤ Builtin.Re.reTurnSteps := fun h => h1 (by rw [runFor_more ho h]; exact ho)
      have e4 : Builtin.Re.reTurnSteps = 4 := rfl
      have e : M.runFor N m = M.runFor (N - 4) (M.runFor Builtin.Re.reTurnSteps m) := by
        rw [← runFor_add, e4]; congr 1; omega
      refine wpAny_bind (wpAny_rule ?_)
      exact wp_drive t _ (N - 4) (by omega) (by omega) (by rw [← e]; exact ho) (by rw [← e]; exact q)

theorem wp_notes {Q : Unit → Shared → Prop} {m : Sre.M} : ∀ (l : List Nat), Q () s → wpAny MM A (forIn l PUnit.unit fun i _ => do
      if (m.seen.has i) = true then
        rule (Sre.names.getD i "")
        pure (ForInStep.yield PUnit.unit)
      else pure (ForInStep.yield PUnit.unit)) (fun _ s' => Q () s') E s
  | [], q => wpAny_pure q
  | i :: r, q => by
    rw [List.forIn_cons]
    refine wpAny_bind ?_
    split
    · exact wpAny_bind (wpAny_rule (wpAny_pure (wp_notes r q)))
    · exact wpAny_pure (wp_notes r q)

theorem wp_runToEnd {m m' : Sre.M} {N : Nat} {Q : Option Sre.M → Shared → Prop} (h : M.runFor N m = m') (hN : N ≤ 2 ^ 60) (q : (m'.outcome = some .matched ∧ Q (some m') s) ∨ (m'.outcome = some .failed ∧ Q none s)) : wpAny MM A (Builtin.Re.reRunToEnd m) Q E s := by
  unfold Builtin.Re.reRunToEnd
  have ho : m'.outcome.isSome = true := by rcases q with ⟨e, _⟩ | ⟨e, _⟩ <;> rw [e] <;> rfl
  refine wpAny_bind (wp_drive _ m N (by decide) (by omega) (by rw [h]; exact ho) ?_)
  rw [h]
  refine wpAny_bind ?_
  have fin : wpAny MM A (match m'.outcome with
    | some .matched => pure (some m')
    | some .failed => pure none
    | some (.stuck why) => unsupported s!"_sre:{why}"
    | none => unsupported "internal:sre:no-outcome" : Sem (Option Sre.M)) Q E s := by
    rcases q with ⟨e, q⟩ | ⟨e, q⟩ <;> rw [e] <;> exact wpAny_pure q
  exact wpAny_mono (wp_notes (Q := fun _ s' => s' = s) _ rfl) (fun _ s' e => by subst e; exact fin) fun _ _ x => x
end
end
end Sw

namespace Sw
section
open PySem.Sre

/-- a machine without groups and loops -/
noncomputable abbrev mk (code text : Array Nat) (lim start ls : Nat) (mu : Bool) (pc pos handed : Nat) (outer : Bool) (frames : List Sre.Frame) (weight : Nat) (answer : Option Bool) (seen : Sre.Seen) (outcome : Option Sre.Outcome) : Sre.M :=
  { code, text, lim, start, lastStart := ls, wholeText := false, mustAdvance := mu, pc, pos, handed, outermost := outer, marks := #[], lastmark := -1, lastindex := -1, loops := #[], inner := none, frames, weight, answer, seen, outcome }
/-- the kept part without marks -/
noncomputable abbrev kp0 : Sre.Kept := { lastmark := -1, lastindex := -1, whole := false, marks := #[] }

theorem exec_lit (m : Sre.M) (h : m.code.getD m.pc 0 = 16) : m.exec = (if m.pos ≥ m.lim then ({ m with seen := m.seen.add 16 } : Sre.M).say false else match accepts m.code m.pc (m.text.getD m.pos 0) (m.seen.add 16) with
    | .error why => ({ m with seen := m.seen.add 16 } : Sre.M).stick why
    | .ok (false, seen) => ({ m with seen } : Sre.M).say false
    | .ok (true, seen) => { m with seen, pc := m.pc + itemWidth m.code m.pc, pos := m.pos + 1 }) := by
  have h' : m.word 0 = 16 := h
  unfold M.exec; rw [h']; rfl
theorem exec_jump (m : Sre.M) (h : m.code.getD m.pc 0 = 15) : m.exec = { m with seen := m.seen.add 15, pc := m.pc + 1 + m.word 1 } := by
  have h' : m.word 0 = 15 := h
  unfold M.exec; rw [h']; rfl
theorem exec_success (m : Sre.M) (h : m.code.getD m.pc 0 = 1) : m.exec = (if m.outermost && ((m.wholeText && m.pos != m.lim) || (m.mustAdvance && m.pos == m.start)) then ({ m with seen := m.seen.add 1 } : Sre.M).say false else ({ m with seen := m.seen.add 1, handed := m.pos } : Sre.M).say true) := by
  have h' : m.word 0 = 1 := h
  unfold M.exec; rw [h']; rfl
theorem exec_at (m : Sre.M) (h : m.code.getD m.pc 0 = 6) (h1 : m.code.getD (m.pc + 1) 0 = 1) : m.exec = (if (m.pos == 0 || m.text.getD (m.pos - 1) 0 == 10) = true then { m with seen := (m.seen.add 6).add 44, pc := m.pc + 2 } else ({ m with seen := (m.seen.add 6).add 44 } : Sre.M).say false) := by
  have h' : m.word 0 = 6 := h
  have h1' : m.word 1 = 1 := h1
  unfold M.exec
  rw [h']
  show (match ({ m with seen := m.seen.add 6 } : Sre.M).isAt (m.word 1) with
    | .error why => ({ m with seen := m.seen.add 6 } : Sre.M).stick why
    | .ok yes => if yes then ({ m with seen := (m.seen.add 6).add (43 + m.word 1), pc := m.pc + 2 } : Sre.M) else ({ m with seen := (m.seen.add 6).add (43 + m.word 1) } : Sre.M).say false) = _
  rw [h1']; rfl
theorem exec_branch (m : Sre.M) (h : m.code.getD m.pc 0 = 7) : m.exec = ({ m with seen := m.seen.add 7 } : Sre.M).alternative (m.pc + 1) (m.keep m.inner.isSome) := by
  have h' : m.word 0 = 7 := h
  unfold M.exec; rw [h']; rfl
theorem exec_assert_not (m : Sre.M) (h : m.code.getD m.pc 0 = 5) (h2 : m.code.getD (m.pc + 2) 0 = 0) : m.exec = ({ m with seen := m.seen.add 5 } : Sre.M).attempt { m.frame .lookNot with kept := m.keep m.inner.isSome } (m.pc + 3) m.pos false := by
  have h' : m.word 0 = 5 := h
  have h2' : m.word 2 = 0 := h2
  unfold M.exec
  rw [h']
  show (if m.pos < m.word 2 then _ else ({ m with seen := m.seen.add 5 } : Sre.M).attempt { m.frame .lookNot with kept := m.keep (true && m.inner.isSome) } (m.pc + 3) (m.pos - m.word 2) false) = _
  rw [h2', if_neg (Nat.not_lt_zero _)]; rfl
section
variable {code text : Array Nat} {lim start ls : Nat} {mu : Bool} {pc pos handed : Nat} {outer : Bool} {frames : List Sre.Frame} {weight : Nat} {seen : Sre.Seen}

theorem st_lit_end (hpc : pc < code.size) (h0 : code.getD pc 0 = 16) (h : lim ≤ pos) : ∃ sn, (mk code text lim start ls mu pc pos handed outer frames weight none seen none).step = mk code text lim start ls mu pc pos handed outer frames weight (some false) sn none := by
  refine ⟨seen.add 16, ?_⟩
  simp only [M.step, Option.isSome_none, Bool.false_eq_true, if_false, hpc, if_true]
  rw [exec_lit _ h0]
  simp [h, M.say]
theorem st_lit (hpc : pc < code.size) (h0 : code.getD pc 0 = 16) (h : pos < lim) (hc : text.getD pos 0 = code.getD (pc + 1) 0) : ∃ sn, (mk code text lim start ls mu pc pos handed outer frames weight none seen none).step = mk code text lim start ls mu (pc + 2) (pos + 1) handed outer frames weight none sn none := by
  refine ⟨seen.add 16, ?_⟩
  have h' : ¬ lim ≤ pos := by omega
  simp only [M.step, Option.isSome_none, Bool.false_eq_true, if_false, hpc, if_true]
  rw [exec_lit _ h0]
  simp only [ge_iff_le, h', if_false, accepts, h0, show ops[16]? = some Op.LITERAL from rfl, hc, beq_self_eq_true, itemWidth]
theorem st_lit_no (hpc : pc < code.size) (h0 : code.getD pc 0 = 16) (hc : text.getD pos 0 ≠ code.getD (pc + 1) 0) : ∃ sn, (mk code text lim start ls mu pc pos handed outer frames weight none seen none).step = mk code text lim start ls mu pc pos handed outer frames weight (some false) sn none := by
  by_cases h : lim ≤ pos
  · exact st_lit_end hpc h0 h
  refine ⟨seen.add 16, ?_⟩
  simp only [M.step, Option.isSome_none, Bool.false_eq_true, if_false, hpc, if_true]
  rw [exec_lit _ h0]
  have e : (text.getD pos 0 == code.getD (pc + 1) 0) = false := by simpa using hc
  simp only [ge_iff_le, h, if_false, accepts, h0, show ops[16]? = some Op.LITERAL from rfl, e, M.say]
theorem st_jump (hpc : pc < code.size) (h0 : code.getD pc 0 = 15) : ∃ sn, (mk code text lim start ls mu pc pos handed outer frames weight none seen none).step = mk code text lim start ls mu (pc + 1 + code.getD (pc + 1) 0) pos handed outer frames weight none sn none := by
  refine ⟨seen.add 15, ?_⟩
  simp only [M.step, Option.isSome_none, Bool.false_eq_true, if_false, hpc, if_true]
  rw [exec_jump _ h0]; rfl
theorem st_success (hpc : pc < code.size) (h0 : code.getD pc 0 = 1) (hm : mu = false ∨ pos ≠ start) : ∃ sn, (mk code text lim start ls mu pc pos handed outer frames weight none seen none).step = mk code text lim start ls mu pc pos pos outer frames weight (some true) sn none := by
  refine ⟨seen.add 1, ?_⟩
  simp only [M.step, Option.isSome_none, Bool.false_eq_true, if_false, hpc, if_true]
  rw [exec_success _ h0]
  have : (mu && pos == start) = false := by rcases hm with e | e <;> simp [e]
  simp [this, M.say]
theorem st_at_line (hpc : pc < code.size) (h0 : code.getD pc 0 = 6) (h1 : code.getD (pc + 1) 0 = 1) : ∃ sn, (mk code text lim start ls mu pc pos handed outer frames weight none seen none).step =
    if (pos == 0 || text.getD (pos - 1) 0 == 10) = true then mk code text lim start ls mu (pc + 2) pos handed outer frames weight none sn none else mk code text lim start ls mu pc pos handed outer frames weight (some false) sn none := by
  refine ⟨(seen.add 6).add 44, ?_⟩
  simp only [M.step, Option.isSome_none, Bool.false_eq_true, if_false, hpc, if_true]
  rw [exec_at _ h0 h1]
  split <;> simp [M.say, *]
theorem st_branch (hpc : pc < code.size) (h0 : code.getD pc 0 = 7) (h1 : code.getD (pc + 1) 0 ≠ 0) (hw : weight + 1 ≤ 16777216) : ∃ sn, (mk code text lim start ls mu pc pos handed outer frames weight none seen none).step =
    mk code text lim start ls mu (pc + 1 + 1) pos pos outer ({ wait := .nextBranch, pc := pc + 1, pos, outermost := outer, kept := kp0 } :: frames) (weight + 1) none sn none := by
  refine ⟨seen.add 7, ?_⟩
  simp only [M.step, Option.isSome_none, Bool.false_eq_true, if_false, hpc, if_true]
  rw [exec_branch _ h0]
  have e : (code.getD (pc + 1) 0 == 0) = false := by simpa using h1
  have hw' : ¬ weight + 1 + (0 : Nat) > 16777216 := by omega
  have hw2 : ¬ 16777216 < weight + 1 := by omega
  have h1' := h1
  simp only [Array.getD_eq_getD_getElem?] at h1'
  simp [M.alternative, h1', M.attempt, M.keep, M.frame, hw2]
theorem st_next_branch (h1 : code.getD (pc' + code.getD pc' 0) 0 ≠ 0) (hw : weight ≤ 16777216) (hw1 : 1 ≤ weight) : (mk code text lim start ls mu pc pos handed outer ({ wait := .nextBranch, pc := pc', pos := pos', outermost := outer', kept := kp0 } :: frames) weight (some false) seen none).step =
    mk code text lim start ls mu (pc' + code.getD pc' 0 + 1) pos' pos' outer' ({ wait := .nextBranch, pc := pc' + code.getD pc' 0, pos := pos', outermost := outer', kept := kp0 } :: frames) weight none seen none := by
  have e : (code.getD (pc' + code.getD pc' 0) 0 == 0) = false := by simpa using h1
  have hw' : ¬ weight - 1 + 1 + (0 : Nat) > 16777216 := by omega
  have hw2 : ¬ 16777216 < weight - 1 + 1 := by omega
  have hw3 : weight - 1 + 1 = weight := by omega
  have h1' := h1
  simp only [Array.getD_eq_getD_getElem?] at h1'
  simp [M.step, M.resume, M.putBack, M.alternative, h1', M.attempt, M.frame, hw2, hw3]
  intro h; omega
theorem st_branch_yes {f : Sre.Frame} (hf : f.wait = .nextBranch ∨ f.wait = .nextStart) (hk : f.kept = kp0 ∨ f.kept = {}) : ∃ pc' pos' outer' w', (mk code text lim start ls mu pc pos handed outer (f :: frames) weight (some true) seen none).step =
    mk code text lim start ls mu pc' pos' handed outer' frames w' (some true) seen none := by
  obtain ⟨wait, fpc, fpos, fo, fc, fk, fl, fb⟩ := f
  refine ⟨fpc, fpos, fo, weight - (1 + fk.marks.size), ?_⟩
  rcases hf with e | e <;> (cases e; simp [M.step, M.resume, M.say])
theorem st_done : (mk code text lim start ls mu pc pos handed outer [] weight (some true) seen none).step = mk code text lim start ls mu pc pos handed outer [] weight (some true) seen (some .matched) := by
  simp [M.step]
theorem st_fail : (mk code text lim start ls mu pc pos handed outer [] weight (some false) seen none).step = mk code text lim start ls mu pc pos handed outer [] weight (some false) seen (some .failed) := by
  simp [M.step]
theorem st_assert_not (hpc : pc < code.size) (h0 : code.getD pc 0 = 5) (h2 : code.getD (pc + 2) 0 = 0) (hw : weight + 1 ≤ 16777216) : ∃ sn, (mk code text lim start ls mu pc pos handed outer frames weight none seen none).step =
    mk code text lim start ls mu (pc + 3) pos pos false ({ wait := .lookNot, pc, pos, outermost := outer, kept := kp0 } :: frames) (weight + 1) none sn none := by
  refine ⟨seen.add 5, ?_⟩
  simp only [M.step, Option.isSome_none, Bool.false_eq_true, if_false, hpc, if_true]
  rw [exec_assert_not _ h0 h2]
  have hw' : ¬ weight + 1 + (0 : Nat) > 16777216 := by omega
  have hw2 : ¬ 16777216 < weight + 1 := by omega
  simp [M.attempt, M.keep, M.frame, hw2]
theorem st_look_not_no (hw1 : 1 ≤ weight) : (mk code text lim start ls mu pc pos handed outer ({ wait := .lookNot, pc := pc', pos := pos', outermost := outer', kept := kp0 } :: frames) weight (some false) seen none).step =
    mk code text lim start ls mu (pc' + 1 + code.getD (pc' + 1) 0) pos' handed outer' frames (weight - 1) none seen none := by
  simp [M.step, M.resume, M.putBack, M.word]
theorem st_look_not_yes (hw1 : 1 ≤ weight) : (mk code text lim start ls mu pc pos handed outer ({ wait := .lookNot, pc := pc', pos := pos', outermost := outer', kept := kp0 } :: frames) weight (some true) seen none).step =
    mk code text lim start ls mu pc' pos' handed outer' frames (weight - 1) (some false) seen none := by
  simp [M.step, M.resume, M.putBack, M.word, M.say]
end
end
end Sw

namespace Sw
section
open PySem.Sre

noncomputable def Go (m : Sre.M) (N : Nat) (R : Sre.M → Prop) : Prop := ∃ k, k ≤ N ∧ R (M.runFor k m)
theorem Go.here {m : Sre.M} {N R} (h : R m) : Go m N R := ⟨0, Nat.zero_le _, h⟩
theorem Go.next {m m' : Sre.M} {N R} (ho : m.outcome = none) (e : m.step = m') (g : Go m' N R) : Go m (N + 1) R := by
  obtain ⟨k, hk, r⟩ := g
  exact ⟨k + 1, by omega, by rw [runFor_succ ho, e]; exact r⟩
theorem Go.le {m : Sre.M} {N K R} (g : Go m N R) (h : N ≤ K) : Go m K R := let ⟨k, hk, r⟩ := g; ⟨k, Nat.le_trans hk h, r⟩

noncomputable def code2 : Array Nat := #[14, 9, 4, 1, 2, 16, 10, 16, 13, 0, 7, 7, 16, 13, 16, 10, 15, 18, 5, 16, 10, 15, 13, 11, 16, 13, 5, 5, 0, 16, 10, 1, 15, 2, 0, 1]
noncomputable def code1 : Array Nat := #[14, 4, 0, 1, 1, 6, 1, 16, 46, 1]
noncomputable abbrev nsf (p : Nat) (pc : Nat) (o : Bool) : Sre.Frame := { wait := .nextStart, pc, pos := p, outermost := o }
noncomputable def Hit (s e : Nat) (m : Sre.M) : Prop := m.outcome = some .matched ∧ m.start = s ∧ m.handed = e
noncomputable def Miss (m : Sre.M) : Prop := m.outcome = some .failed

section
variable {text : Array Nat} {lim start ls : Nat} {mu : Bool} {pos handed w : Nat} {outer : Bool} {seen : Sre.Seen}

theorem go_yes {code : Array Nat} {pc : Nat} : ∀ (frames : List Sre.Frame) {pc pos w : Nat} {outer : Bool} {seen : Sre.Seen}, (∀ f ∈ frames, (f.wait = .nextBranch ∨ f.wait = .nextStart) ∧ (f.kept = kp0 ∨ f.kept = {})) →
    Go (mk code text lim start ls mu pc pos handed outer frames w (some true) seen none) (frames.length + 1) (Hit start handed)
  | [], pc, pos, w, outer, seen, _ => .next rfl st_done (.here ⟨rfl, rfl, rfl⟩)
  | f :: r, pc, pos, w, outer, seen, h => by
    obtain ⟨h1, h2⟩ := h f List.mem_cons_self
    obtain ⟨a, b, c, d, e⟩ := st_branch_yes (code := code) (text := text) (lim := lim) (start := start) (ls := ls) (mu := mu) (pc := pc) (pos := pos) (handed := handed) (outer := outer) (frames := r) (weight := w) (seen := seen) h1 h2
    exact .next rfl e (go_yes (pc := pc) r fun g hg => h g (List.mem_cons_of_mem _ hg))

theorem c2_success (hm : mu = false) (h1 : ∀ f ∈ frames, (f.wait = .nextBranch ∨ f.wait = .nextStart) ∧ (f.kept = kp0 ∨ f.kept = {})) : Go (mk code2 text lim start ls mu 35 pos handed outer frames w none seen none) (frames.length + 2) (Hit start pos) := by
  obtain ⟨sn, e⟩ := st_success (code := code2) (text := text) (lim := lim) (start := start) (ls := ls) (mu := mu) (pc := 35) (pos := pos) (handed := handed) (outer := outer) (frames := frames) (weight := w) (seen := seen) (by decide) (by decide) (.inl hm)
  exact .next rfl e (go_yes (pc := 35) frames h1)

theorem c2_at {s p : Nat} {fs : List Sre.Frame} (hs : s < lim) (hfs : fs = [nsf s 10 outer]) (hc : text.getD s 0 = 13 ∨ text.getD s 0 = 10) (hl : lim = text.size) :
    Go (mk code2 text lim s ls false 10 s handed outer fs 1 none seen none) 30 (Hit s (if text.getD s 0 = 13 ∧ text.getD (s + 1) 0 = 10 then s + 2 else s + 1)) := by
  subst hfs
  have fok : ∀ (pc' : Nat), ∀ f ∈ ([{ wait := .nextBranch, pc := pc', pos := s, outermost := outer, kept := kp0 }, nsf s 10 outer] : List Sre.Frame), (f.wait = .nextBranch ∨ f.wait = .nextStart) ∧ (f.kept = kp0 ∨ f.kept = {}) := fun pc' f hf => by
    rcases List.mem_cons.mp hf with rfl | hf
    · exact ⟨.inl rfl, .inl rfl⟩
    · rw [List.mem_singleton.mp hf]; exact ⟨.inr rfl, .inr rfl⟩
  obtain ⟨s0, e0⟩ := st_branch (code := code2) (text := text) (lim := lim) (start := s) (ls := ls) (mu := false) (pc := 10) (pos := s) (handed := handed) (outer := outer) (frames := [nsf s 10 outer]) (weight := 1) (seen := seen) (by decide) (by decide) (by decide) (by decide)
  refine Go.le (.next rfl e0 (N := 28) ?_) (by decide)
  rcases hc with hc | hc
  · -- a return
    obtain ⟨s1, e1⟩ := st_lit (code := code2) (text := text) (lim := lim) (start := s) (ls := ls) (mu := false) (pc := 12) (pos := s) (handed := s) (outer := outer) (frames := [{ wait := .nextBranch, pc := 11, pos := s, outermost := outer, kept := kp0 }, nsf s 10 outer]) (weight := 2) (seen := s0) (by decide) (by decide) hs (by rw [hc]; decide)
    refine .next rfl e1 (N := 27) ?_
    by_cases hn : text.getD (s + 1) 0 = 10
    · have hlt : s + 1 < lim := by
        rw [hl]
        rcases Nat.lt_or_ge (s + 1) text.size with h | h
        · exact h
        · rw [Array.getD_eq_getD_getElem?, Array.getElem?_eq_none h] at hn; cases hn
      rw [if_pos ⟨hc, hn⟩]
      obtain ⟨s2, e2⟩ := st_lit (code := code2) (text := text) (lim := lim) (start := s) (ls := ls) (mu := false) (pc := 14) (pos := s + 1) (handed := s) (outer := outer) (frames := [{ wait := .nextBranch, pc := 11, pos := s, outermost := outer, kept := kp0 }, nsf s 10 outer]) (weight := 2) (seen := s1) (by decide) (by decide) hlt (by rw [hn]; decide)
      refine .next rfl e2 (N := 26) ?_
      obtain ⟨s3, e3⟩ := st_jump (code := code2) (text := text) (lim := lim) (start := s) (ls := ls) (mu := false) (pc := 16) (pos := s + 1 + 1) (handed := s) (outer := outer) (frames := [{ wait := .nextBranch, pc := 11, pos := s, outermost := outer, kept := kp0 }, nsf s 10 outer]) (weight := 2) (seen := s2) (by decide) (by decide)
      refine .next rfl e3 (N := 25) ?_
      exact Go.le (c2_success rfl (fok 11)) (by simp)
    · rw [if_neg fun h => hn h.2]
      obtain ⟨s2, e2⟩ := st_lit_no (code := code2) (text := text) (lim := lim) (start := s) (ls := ls) (mu := false) (pc := 14) (pos := s + 1) (handed := s) (outer := outer) (frames := [{ wait := .nextBranch, pc := 11, pos := s, outermost := outer, kept := kp0 }, nsf s 10 outer]) (weight := 2) (seen := s1) (by decide) (by decide) (by rw [show code2.getD (14 + 1) 0 = 10 by decide]; exact hn)
      refine .next rfl e2 (N := 26) ?_
      refine .next rfl (st_next_branch (code := code2) (pc' := 11) (by decide) (by decide) (by decide)) (N := 25) ?_
      obtain ⟨s4, e4⟩ := st_lit_no (code := code2) (text := text) (lim := lim) (start := s) (ls := ls) (mu := false) (pc := 19) (pos := s) (handed := s) (outer := outer) (frames := [{ wait := .nextBranch, pc := 18, pos := s, outermost := outer, kept := kp0 }, nsf s 10 outer]) (weight := 2) (seen := s2) (by decide) (by decide) (by rw [hc]; decide)
      refine .next rfl e4 (N := 24) ?_
      refine .next rfl (st_next_branch (code := code2) (pc' := 18) (by decide) (by decide) (by decide)) (N := 23) ?_
      obtain ⟨s5, e5⟩ := st_lit (code := code2) (text := text) (lim := lim) (start := s) (ls := ls) (mu := false) (pc := 24) (pos := s) (handed := s) (outer := outer) (frames := [{ wait := .nextBranch, pc := 23, pos := s, outermost := outer, kept := kp0 }, nsf s 10 outer]) (weight := 2) (seen := s4) (by decide) (by decide) hs (by rw [hc]; decide)
      refine .next rfl e5 (N := 22) ?_
      obtain ⟨s6, e6⟩ := st_assert_not (code := code2) (text := text) (lim := lim) (start := s) (ls := ls) (mu := false) (pc := 26) (pos := s + 1) (handed := s) (outer := outer) (frames := [{ wait := .nextBranch, pc := 23, pos := s, outermost := outer, kept := kp0 }, nsf s 10 outer]) (weight := 2) (seen := s5) (by decide) (by decide) (by decide) (by decide)
      refine .next rfl e6 (N := 21) ?_
      obtain ⟨s7, e7⟩ := st_lit_no (code := code2) (text := text) (lim := lim) (start := s) (ls := ls) (mu := false) (pc := 29) (pos := s + 1) (handed := s + 1) (outer := false) (frames := [{ wait := .lookNot, pc := 26, pos := s + 1, outermost := outer, kept := kp0 }, { wait := .nextBranch, pc := 23, pos := s, outermost := outer, kept := kp0 }, nsf s 10 outer]) (weight := 3) (seen := s6) (by decide) (by decide) (by rw [show code2.getD (29 + 1) 0 = 10 by decide]; exact hn)
      refine .next rfl e7 (N := 20) ?_
      refine .next rfl (st_look_not_no (code := code2) (pc' := 26) (by decide)) (N := 19) ?_
      obtain ⟨s8, e8⟩ := st_jump (code := code2) (text := text) (lim := lim) (start := s) (ls := ls) (mu := false) (pc := 32) (pos := s + 1) (handed := s + 1) (outer := outer) (frames := [{ wait := .nextBranch, pc := 23, pos := s, outermost := outer, kept := kp0 }, nsf s 10 outer]) (weight := 2) (seen := s7) (by decide) (by decide)
      refine .next rfl e8 (N := 18) ?_
      exact Go.le (c2_success rfl (fok 23)) (by simp)
  · rw [if_neg fun h => by rw [hc] at h; exact absurd h.1 (by decide)]
    obtain ⟨s1, e1⟩ := st_lit_no (code := code2) (text := text) (lim := lim) (start := s) (ls := ls) (mu := false) (pc := 12) (pos := s) (handed := s) (outer := outer) (frames := [{ wait := .nextBranch, pc := 11, pos := s, outermost := outer, kept := kp0 }, nsf s 10 outer]) (weight := 2) (seen := s0) (by decide) (by decide) (by rw [hc]; decide)
    refine .next rfl e1 (N := 27) ?_
    refine .next rfl (st_next_branch (code := code2) (pc' := 11) (by decide) (by decide) (by decide)) (N := 26) ?_
    obtain ⟨s4, e4⟩ := st_lit (code := code2) (text := text) (lim := lim) (start := s) (ls := ls) (mu := false) (pc := 19) (pos := s) (handed := s) (outer := outer) (frames := [{ wait := .nextBranch, pc := 18, pos := s, outermost := outer, kept := kp0 }, nsf s 10 outer]) (weight := 2) (seen := s1) (by decide) (by decide) hs (by rw [hc]; decide)
    refine .next rfl e4 (N := 25) ?_
    obtain ⟨s8, e8⟩ := st_jump (code := code2) (text := text) (lim := lim) (start := s) (ls := ls) (mu := false) (pc := 21) (pos := s + 1) (handed := s) (outer := outer) (frames := [{ wait := .nextBranch, pc := 18, pos := s, outermost := outer, kept := kp0 }, nsf s 10 outer]) (weight := 2) (seen := s4) (by decide) (by decide)
    refine .next rfl e8 (N := 24) ?_
    exact Go.le (c2_success rfl (fok 18)) (by simp)
end
end
end Sw

namespace Sw
section
open PySem.Sre

noncomputable def eol (c : Nat) : Prop := c = 13 ∨ c = 10
theorem inSet2 {c : Nat} {seen : Sre.Seen} : ∃ sn, inSet code2 c code2.size 5 true seen = .ok (c == 10 || c == 13, sn) := by
  have hs : code2.size = 36 := by decide
  rw [hs]
  have e : inSet code2 c 36 5 true seen = if (c == 10) = true then .ok (true, seen.add 16) else if (c == 13) = true then .ok (true, (seen.add 16).add 16) else .ok (false, ((seen.add 16).add 16).add 0) := rfl
  rw [e]
  cases (c == 10)
  · cases (c == 13)
    · exact ⟨_, rfl⟩
    · exact ⟨_, rfl⟩
  · exact ⟨_, rfl⟩

theorem adm_some {m : Sre.M} (hm : m.code = code2) : ∀ (d s fuel : Nat) (seen : Sre.Seen), d < fuel → s + d < m.lim → (∀ j, j < d → ¬ eol (m.text.getD (s + j) 0)) → eol (m.text.getD (s + d) 0) → ∃ sn, M.admitted m fuel s seen = .ok (some (s + d), sn)
  | _, _, 0, _, h, _, _, _ => absurd h (by omega)
  | 0, s, fuel + 1, seen, _, hl, _, he => by
    unfold M.admitted
    rw [if_neg (by omega), hm]
    obtain ⟨sn, e⟩ := inSet2 (c := m.text.getD s 0) (seen := seen)
    rw [e]
    have : (m.text.getD s 0 == 10 || m.text.getD s 0 == 13) = true := by
      rcases he with h | h <;> (rw [Nat.add_zero] at h; rw [h]; rfl)
    rw [this]
    exact ⟨sn, rfl⟩
  | d + 1, s, fuel + 1, seen, hf, hl, hn, he => by
    unfold M.admitted
    rw [if_neg (by omega), hm]
    obtain ⟨sn, e⟩ := inSet2 (c := m.text.getD s 0) (seen := seen)
    rw [e]
    have h0 := hn 0 (by omega)
    have : (m.text.getD s 0 == 10 || m.text.getD s 0 == 13) = false := by
      rw [Nat.add_zero] at h0
      simp only [eol, not_or] at h0
      rw [Bool.or_eq_false_iff]; exact ⟨by simpa using h0.2, by simpa using h0.1⟩
    rw [this]
    have e2 : s + (d + 1) = s + 1 + d := by omega
    rw [e2]
    exact adm_some hm d (s + 1) fuel sn (by omega) (by omega) (fun j hj => by have := hn (j + 1) (by omega); rwa [show s + (j + 1) = s + 1 + j by omega] at this) (by rwa [e2] at he)
theorem adm_none {m : Sre.M} (hm : m.code = code2) : ∀ (fuel s : Nat) (seen : Sre.Seen), (∀ j, s ≤ j → j < m.lim → ¬ eol (m.text.getD j 0)) → ∃ sn, M.admitted m fuel s seen = .ok (none, sn)
  | 0, s, seen, _ => ⟨seen, rfl⟩
  | fuel + 1, s, seen, hn => by
    unfold M.admitted
    by_cases hl : s ≥ m.lim
    · rw [if_pos hl]; exact ⟨_, rfl⟩
    · rw [if_neg hl, hm]
      obtain ⟨sn, e⟩ := inSet2 (c := m.text.getD s 0) (seen := seen)
      rw [e]
      have h0 := hn s (Nat.le_refl _) (by omega)
      have : (m.text.getD s 0 == 10 || m.text.getD s 0 == 13) = false := by
        simp only [eol, not_or] at h0
        rw [Bool.or_eq_false_iff]; exact ⟨by simpa using h0.2, by simpa using h0.1⟩
      rw [this]
      exact adm_none hm fuel (s + 1) sn fun j hj => hn j (by omega)

/-- what a search gives -/
noncomputable def Srch (code text : Array Nat) (a : Nat) (must : Bool) (r : Option (Nat × Nat)) : Prop :=
  Go (Sre.forSearch code text 0 a text.size must) (2 ^ 60) fun m => match r with | some (s, e) => Hit s e m | none => Miss m

theorem srch2_none {text : Array Nat} {a : Nat} {must : Bool} (h : ∀ j, a ≤ j → j < text.size → ¬ eol (text.getD j 0)) : Srch code2 text a must none := by
  unfold Srch
  have e : Sre.forSearch code2 text 0 a text.size must = if (decide (a > text.size) || decide (text.size - a < 1)) = true then (mk code2 text text.size a 0 must 10 a a true [] 0 (some false) (({} : Sre.Seen).add 14) none) else (mk code2 text text.size a text.size must 10 a a true [] 0 none (({} : Sre.Seen).add 14) none).attemptFrom a true := rfl
  rw [e]
  split
  · exact Go.le (.next rfl st_fail (.here rfl) (N := 0)) (by decide)
  · have hf : (mk code2 text text.size a text.size must 10 a a true [] 0 none (({} : Sre.Seen).add 14) none).hasFirstSet = true := rfl
    unfold M.attemptFrom
    rw [hf]
    obtain ⟨sn, e2⟩ := adm_none (m := mk code2 text text.size a text.size must 10 a a true [] 0 none (({} : Sre.Seen).add 14) none) rfl (text.size + 1 - a) a (({} : Sre.Seen).add 14) h
    rw [if_neg (by decide)]
    rw [e2]
    exact Go.le (.next rfl st_fail (.here rfl) (N := 0)) (by decide)
theorem srch2_some {text : Array Nat} {a d : Nat} {must : Bool} (hd : a + d < text.size) (h : ∀ j, j < d → ¬ eol (text.getD (a + j) 0)) (he : eol (text.getD (a + d) 0)) :
    Srch code2 text a must (some (a + d, if text.getD (a + d) 0 = 13 ∧ text.getD (a + d + 1) 0 = 10 then a + d + 2 else a + d + 1)) := by
  unfold Srch
  have e : Sre.forSearch code2 text 0 a text.size must = if (decide (a > text.size) || decide (text.size - a < 1)) = true then (mk code2 text text.size a 0 must 10 a a true [] 0 (some false) (({} : Sre.Seen).add 14) none) else (mk code2 text text.size a text.size must 10 a a true [] 0 none (({} : Sre.Seen).add 14) none).attemptFrom a true := rfl
  rw [e, if_neg (by simp; omega)]
  have hf : (mk code2 text text.size a text.size must 10 a a true [] 0 none (({} : Sre.Seen).add 14) none).hasFirstSet = true := rfl
  unfold M.attemptFrom
  rw [hf]
  obtain ⟨sn, e2⟩ := adm_some (m := mk code2 text text.size a text.size must 10 a a true [] 0 none (({} : Sre.Seen).add 14) none) rfl d a (text.size + 1 - a) (({} : Sre.Seen).add 14) (by omega) hd h he
  rw [if_neg (by decide)]
  rw [e2]
  show Go (mk code2 text text.size (a + d) text.size false 10 (a + d) (a + d) true [nsf (a + d) 10 true] 1 none sn none) _ _
  exact Go.le (c2_at (p := 0) hd rfl he rfl) (by decide)
end
end Sw

namespace Sw
section
open PySem.Sre

/-- a dot that a line begins with -/
noncomputable def dotAt (text : Array Nat) (p : Nat) : Prop := p < text.size ∧ text.getD p 0 = 46 ∧ (p = 0 ∨ text.getD (p - 1) 0 = 10)
section
variable {text : Array Nat}
theorem c1_hit {p ls handed w : Nat} {mu outer o2 : Bool} {seen : Sre.Seen} (h : dotAt text p) : Go (mk code1 text text.size p ls mu 5 p handed outer [nsf p 5 o2] 1 none seen none) 8 (Hit p (p + 1)) := by
  obtain ⟨h1, h2, h3⟩ := h
  obtain ⟨s1, e1⟩ := st_at_line (code := code1) (text := text) (lim := text.size) (start := p) (ls := ls) (mu := mu) (pc := 5) (pos := p) (handed := handed) (outer := outer) (frames := [nsf p 5 o2]) (weight := 1) (seen := seen) (by decide) (by decide) (by decide)
  have : (p == 0 || text.getD (p - 1) 0 == 10) = true := by
    rw [Bool.or_eq_true]
    rcases h3 with e | e
    · exact .inl (by simpa using e)
    · exact .inr (by simpa using e)
  rw [if_pos this] at e1
  refine .next rfl e1 (N := 7) ?_
  obtain ⟨s2, e2⟩ := st_lit (code := code1) (text := text) (lim := text.size) (start := p) (ls := ls) (mu := mu) (pc := 7) (pos := p) (handed := handed) (outer := outer) (frames := [nsf p 5 o2]) (weight := 1) (seen := s1) (by decide) (by decide) h1 (by rw [h2]; decide)
  refine .next rfl e2 (N := 6) ?_
  obtain ⟨s3, e3⟩ := st_success (code := code1) (text := text) (lim := text.size) (start := p) (ls := ls) (mu := mu) (pc := 9) (pos := p + 1) (handed := handed) (outer := outer) (frames := [nsf p 5 o2]) (weight := 1) (seen := s2) (by decide) (by decide) (.inr (by omega))
  refine .next rfl e3 (N := 5) ?_
  exact Go.le (go_yes (code := code1) (pc := 9) [nsf p 5 o2] fun f hf => by rw [List.mem_singleton.mp hf]; exact ⟨.inr rfl, .inr rfl⟩) (by simp)
theorem c1_no {p ls handed w N : Nat} {mu outer o2 : Bool} {seen : Sre.Seen} {R : Sre.M → Prop} (h : ¬ dotAt text p) (hls : ls = text.size) (hp : p ≤ text.size)
    (g : p < text.size → ∀ h2 sn, Go (mk code1 text text.size (p + 1) ls false 5 (p + 1) h2 false [nsf (p + 1) 5 false] 1 none sn none) N R) (f : p = text.size → ∀ h2 o sn pc2 pos2 mu2, Go (mk code1 text text.size p ls mu2 pc2 pos2 h2 o [] 0 (some false) sn none) N R) :
    Go (mk code1 text text.size p ls mu 5 p handed outer [nsf p 5 o2] 1 none seen none) (N + 3) R := by
  obtain ⟨s1, e1⟩ := st_at_line (code := code1) (text := text) (lim := text.size) (start := p) (ls := ls) (mu := mu) (pc := 5) (pos := p) (handed := handed) (outer := outer) (frames := [nsf p 5 o2]) (weight := 1) (seen := seen) (by decide) (by decide) (by decide)
  have fin : ∀ pc2 sn, Go (mk code1 text text.size p ls mu pc2 p handed outer [nsf p 5 o2] 1 (some false) sn none) (N + 1) R := fun pc2 sn => by
    by_cases hl : p < text.size
    · refine .next rfl (m' := mk code1 text text.size (p + 1) ls false 5 (p + 1) (p + 1) false [nsf (p + 1) 5 false] 1 none sn none) ?_ (g hl _ _)
      have hl' : p < ls := by omega
      simp only [M.step, M.resume, Option.isSome_none, Bool.false_eq_true, if_false, hl', if_true]
      rfl
    · have e : p = text.size := by omega
      refine .next rfl (m' := mk code1 text text.size p ls mu 5 p handed o2 [] 0 (some false) sn none) ?_ (f e _ _ _ _ _ _)
      have hl' : ¬ p < ls := by omega
      simp only [M.step, M.resume, Option.isSome_none, Bool.false_eq_true, if_false, hl']
      rfl
  by_cases hb : (p == 0 || text.getD (p - 1) 0 == 10) = true
  · rw [if_pos hb] at e1
    refine .next rfl e1 (N := N + 2) ?_
    have hb' : p = 0 ∨ text.getD (p - 1) 0 = 10 := by
      rw [Bool.or_eq_true] at hb
      rcases hb with e | e
      · exact .inl (by simpa using e)
      · exact .inr (by simpa using e)
    by_cases hl : p < text.size
    · have hc : text.getD p 0 ≠ 46 := fun e => h ⟨hl, e, hb'⟩
      obtain ⟨s2, e2⟩ := st_lit_no (code := code1) (text := text) (lim := text.size) (start := p) (ls := ls) (mu := mu) (pc := 7) (pos := p) (handed := handed) (outer := outer) (frames := [nsf p 5 o2]) (weight := 1) (seen := s1) (by decide) (by decide) (by rw [show code1.getD (7 + 1) 0 = 46 by decide]; exact hc)
      exact .next rfl e2 (fin _ _)
    · obtain ⟨s2, e2⟩ := st_lit_end (code := code1) (text := text) (lim := text.size) (start := p) (ls := ls) (mu := mu) (pc := 7) (pos := p) (handed := handed) (outer := outer) (frames := [nsf p 5 o2]) (weight := 1) (seen := s1) (by decide) (by decide) (by omega)
      exact .next rfl e2 (fin _ _)
  · rw [if_neg hb] at e1
    refine .next rfl e1 (N := N + 2) ?_
    exact Go.le (fin _ _) (by omega)
theorem c1_run {R : Sre.M → Prop} : ∀ (d p : Nat), p + d = text.size → ∀ {handed : Nat} {mu outer o2 : Bool} {seen : Sre.Seen},
    (∀ p', p ≤ p' → dotAt text p' → (∀ j, p ≤ j → j < p' → ¬ dotAt text j) → ∀ m, Hit p' (p' + 1) m → R m) → ((∀ j, p ≤ j → ¬ dotAt text j) → ∀ m, Miss m → R m) → Go (mk code1 text text.size p text.size mu 5 p handed outer [nsf p 5 o2] 1 none seen none) (3 * d + 12) R := by
  intro d
  induction d with
  | zero =>
    intro p hp handed mu outer o2 seen h1 h2
    have no : ¬ dotAt text p := fun h => by have := h.1; omega
    refine Go.le (c1_no (w := 0) (N := 1) no rfl (by omega) (fun h => by omega) fun e h2' o sn pc2 pos2 mu2 => ?_) (by omega)
    exact .next rfl st_fail (.here (h2 (fun j hj h => by have := h.1; omega) _ rfl))
  | succ d ih =>
    intro p hp handed mu outer o2 seen h1 h2
    by_cases h : dotAt text p
    · obtain ⟨k, hk, r⟩ := c1_hit (ls := text.size) (handed := handed) (w := 0) (mu := mu) (outer := outer) (o2 := o2) (seen := seen) h
      exact ⟨k, by omega, h1 p (Nat.le_refl _) h (fun j _ _ => by omega) _ r⟩
    · refine Go.le (c1_no (w := 0) (N := 3 * d + 12) h rfl (by omega) (fun _ hh sn => ih (p + 1) (by omega) (fun p' hp' hd hn m hm => ?_) fun hn m hm => ?_) fun e => by omega) (by omega)
      · exact h1 p' (by omega) hd (fun j hj hjp => by
          by_cases e : j = p
          · subst e; exact h
          · exact hn j (by omega) hjp) m hm
      · exact h2 (fun j hj => by
          by_cases e : j = p
          · subst e; exact h
          · exact hn j (by omega)) m hm

theorem srch1 {a : Nat} {must : Bool} (hsz : text.size ≤ 2 ^ 40) {R : Sre.M → Prop} (h1 : ∀ p', a ≤ p' → dotAt text p' → (∀ j, a ≤ j → j < p' → ¬ dotAt text j) → ∀ m, Hit p' (p' + 1) m → R m) (h2 : (∀ j, a ≤ j → ¬ dotAt text j) → ∀ m, Miss m → R m) :
    Go (Sre.forSearch code1 text 0 a text.size must) (2 ^ 60) R := by
  have e : Sre.forSearch code1 text 0 a text.size must = if (decide (a > text.size) || decide (text.size - a < 1)) = true then (mk code1 text text.size a 0 must 5 a a true [] 0 (some false) (({} : Sre.Seen).add 14) none) else (mk code1 text text.size a text.size must 5 a a true [nsf a 5 true] 1 none (({} : Sre.Seen).add 14) none) := rfl
  rw [e]
  split
  · rename_i h
    have : text.size ≤ a := by simp at h; omega
    refine Go.le (.next rfl st_fail (.here ?_) (N := 0)) (by decide)
    exact h2 (fun j hj hd => by have := hd.1; omega) _ rfl
  · rename_i h
    have : a < text.size := by simp at h; omega
    exact Go.le (c1_run (text.size - a) a (by omega) h1 h2) (by omega)
theorem srch1_some {a d : Nat} {must : Bool} (hsz : text.size ≤ 2 ^ 40) (hd : dotAt text (a + d)) (hn : ∀ j, j < d → ¬ dotAt text (a + j)) : Srch code1 text a must (some (a + d, a + d + 1)) :=
  srch1 hsz (fun p' hp hd' hn' m hm => by
    have : p' = a + d := by
      rcases Nat.lt_trichotomy p' (a + d) with h | h | h
      · exact absurd (by rw [show a + (p' - a) = p' by omega]; exact hd') (hn (p' - a) (by omega))
      · exact h
      · exact absurd hd (hn' (a + d) (by omega) h)
    subst this; exact hm) fun hn' m hm => absurd hd (hn' _ (by omega))
theorem srch1_none {a : Nat} {must : Bool} (hsz : text.size ≤ 2 ^ 40) (hn : ∀ j, a ≤ j → ¬ dotAt text j) : Srch code1 text a must none :=
  srch1 hsz (fun p' hp hd' _ m hm => absurd hd' (hn p' hp)) fun _ m hm => hm
end
end
end Sw

namespace Sw
section
open PySem.Sre

structure PatAt (h : Heap) (P : Addr) (code : Array Nat) : Prop where
  ex : ∃ o fs C oC items n, h.get? P = some o ∧ o.cls = .type "re.Pattern" ∧ o.dict = none ∧ o.data = .fields fs ∧ fs.getD 5 .none = .ref C ∧ h.get? C = some oC ∧ oC.data = .seq items n ∧
    (items.map Builtin.Re.reRawOf).map (·.toNat) = code ∧ Builtin.Re.reRawNat (fs.getD 2 .none) = 0 ∧ Builtin.Re.reRawNat (fs.getD 6 .none) = 0

section
variable {prog : Program} {w : World} {A : Around} {E : Value → Shared → Prop} {s : Shared}
theorem wp_whole {P : Addr} {code : Array Nat} {x : Str} {t : Tok} {Q : Builtin.Re.ReTarget → Shared → Prop} (p : PatAt s.heap P code)
    (q : Q { pattern := .ref P, string := .str x t, code, text := x.cps, kind := 0, groups := 0, pos := 0, lim := x.cps.size } s) : wpAny (model prog w) A (Builtin.Re.reWholeTarget (.ref P) (.str x t)) Q E s := by
  obtain ⟨o, fs, C, oC, items, n, ho, hc, hdd, hd, h5, hoC, hdC, hcode, h2, h6⟩ := p.ex
  unfold Builtin.Re.reWholeTarget
  refine wpAny_bind (wpAny_fieldsOf ho hd ?_)
  refine wpAny_bind (m := Builtin.Re.reTextOf (.str x t)) (wpAny_pure ?_)
  simp only [h6, h2]
  refine wpAny_bind (m := Builtin.Re.reNoCollectionInside _ _) (wpAny_pure ?_)
  unfold Builtin.Re.reRawItems
  rw [h5]
  refine wpAny_bind (wpAny_bind (wpAny_seqItems hoC hdC ?_))
  refine wpAny_pure ?_
  refine wpAny_pure ?_
  simp only [Option.getD_some, hcode]
  exact q

theorem wp_next {T : Builtin.Re.ReTarget} {a : Nat} {must : Bool} {r : Option (Nat × Nat)} (hg : T.groups = 0) (hl : T.lim = T.text.size) (h : Srch T.code T.text a must r) {Q : Option Sre.M → Shared → Prop}
    (q : match r with | some (b, e) => ∀ m : Sre.M, m.start = b → m.handed = e → Q (some m) s | none => Q none s) : wpAny (model prog w) A (Builtin.Re.reNextFound T a must) Q E s := by
  unfold Builtin.Re.reNextFound
  rw [hg, hl]
  obtain ⟨k, hk, hr⟩ := h
  cases r with
  | none => exact wp_runToEnd rfl hk (.inr ⟨hr, q⟩)
  | some p =>
    obtain ⟨b, e⟩ := p
    exact wp_runToEnd rfl hk (.inl ⟨hr.1, q _ hr.2.1 hr.2.2⟩)

inductive SubRun (code text : Array Nat) (rl : Str) : Nat → Bool → List Str → Prop
  | stop {a must} : Srch code text a must none → SubRun code text rl a must (if a < text.size then [⟨text.extract a text.size⟩] else [])
  | hit {a must b e rest} : Srch code text a must (some (b, e)) → SubRun code text rl e (e == b) rest → SubRun code text rl a must ((if a < b then [⟨text.extract a b⟩] else []) ++ (rl :: rest))

noncomputable abbrev pobj (vs : Array Value) (k : Nat) : Obj := { cls := .type "list", data := .seq vs k }
theorem push_at {D : Addr} {ys : Array Value} {k : Nat} {v : Value} {Q : Unit → Shared → Prop} (hD : s.heap.get? D = some (pobj ys k)) (hz : ys.size ≤ 2 ^ 20)
    (q : ∀ h', Heap.SameBut D s.heap h' → h'.get? D = some (pobj (ys.push v) (k + 1)) → Q () { s with heap := h' }) : wpAny (model prog w) A (updateSeq D (·.push v)) Q E s := by
  refine wpAny_updateSeq hD rfl (q _ (Heap.SameBut.update ..) ?_) (by rw [sizeLine_eq]; omega) (by rw [sizeLine_eq, Array.size_push]; omega)
  have := PySem.IsL.update (n := k) hD (·.push v)
  simpa [PySem.IsL] using this

theorem strs_push {ys : Array Value} {prev : List Str} (h : StrsAre ys.toList prev) (x : Str) (t : Tok) : StrsAre (ys.push (.str x t)).toList (prev ++ [x]) := by
  have key : ∀ {vs : List Value} {ss : List Str}, StrsAre vs ss → StrsAre (vs ++ [.str x t]) (ss ++ [x]) := by
    intro vs ss h
    induction h with
    | nil => exact .cons _ _ .nil
    | cons y u _ ih => exact .cons _ _ ih
  simpa using key h

theorem sub_loop {P D : Addr} {code : Array Nat} {x rl : Str} {t tr : Tok} {R : Result → Shared → Prop} (hx : x.length ≤ 2 ^ 20) : ∀ {a : Nat} {must : Bool} {out : List Str}, SubRun code x.cps rl a must out → ∀ (s : Shared) (ys : Array Value) (k : Nat) (prev : List Str) (n : Nat),
    PatAt s.heap P code → (∀ h', Heap.SameBut D s.heap h' → PatAt h' P code) → s.heap.get? D = some (pobj ys k) → StrsAre ys.toList prev → ((prev ++ out).map (·.length)).sum ≤ 16777216 → (prev ++ out).length ≤ 2 ^ 20 →
    (∀ t' tk h', (∀ b o, b ≠ D → s.heap.get? b = some o → h'.get? b = some o) → R (.ok (.ret (.str (Txt.join "" (prev ++ out)) t'))) { s with heap := h', toks := tk }) →
    codeAny (model prog w) A (.builtin "re.Pattern.sub.loop" ⟨[.ref P, .str x t, .str rl tr, rawInt 0, rawInt 0, rawInt (n : Nat), rawInt (a : Nat), rawInt (a : Nat), .bool must, .ref D, .bool false], []⟩) R s := by
  have hxs : ∀ b e, (⟨x.cps.extract b e⟩ : Str).length ≤ sizeLine := fun b e => by
    have h0 : (x.cps.extract b e).size ≤ x.cps.size := by simp; omega
    have h1 : x.cps.size ≤ 2 ^ 20 := hx
    show (x.cps.extract b e).size ≤ sizeLine
    rw [sizeLine_eq]; omega
  intro a must out run
  induction run with
  | @stop a must hs =>
    intro s ys k prev n p pk hD hy hsum hlen r
    refine codeAny_builtin re_entry_loop ?_
    rw [Around.under_plainId re_plain_loop]
    unfold Builtin.«re.Pattern.sub.loop»
    refine wpAny_bind (wp_whole p ?_)
    dsimp only
    rw [if_pos (by rfl)]
    refine wpAny_bind (m := Builtin.Re.reLiteralCannotBeTurned _) (wpAny_pure ?_)
    rw [if_neg (by simp)]
    refine wpAny_bind (wp_next (a := (a : Int).toNat) (r := none) rfl rfl (by simpa using hs) ?_)
    dsimp only
    have fin : ∀ (h1 : Heap) (tk1 : Nat) (zs : Array Value) (k1 : Nat) (all : List Str), (∀ b o, b ≠ D → s.heap.get? b = some o → h1.get? b = some o) → h1.get? D = some (pobj zs k1) → StrsAre zs.toList all → all = prev ++ (if a < x.cps.size then [⟨x.cps.extract a x.cps.size⟩] else []) →
        wpAny (model prog w) A.in1 (do
          let joiner ← Builtin.Re.reSlice x.cps 0 0 0
          let xs ← seqItems? (Value.ref D)
          if (xs.getD #[]).isEmpty = true then do
            let text ← pure joiner
            if false = true then do
              let l ← holding [text] (do let i ← mkInt (n : Int); newTuple [text, i])
              ret l
            else ret text
          else do
            let text ← call (Value.builtin (if (0 == 0) = true then "str.join" else "bytes.join")) [joiner, Value.ref D]
            if false = true then do
              let l ← holding [text] (do let i ← mkInt (n : Int); newTuple [text, i])
              ret l
            else ret text)
          (fun fin s' => match fin with
            | .done f => R (.ok f) s'
            | .again c' => c'.quiet = true ∧ codeAny (model prog w) A c' R s') (fun e s' => R (.error e) s') { s with heap := h1, toks := tk1 } := fun h1 tk1 zs k1 all kk hD1 hy1 e => by
      refine wpAny_bind (m := mkStr _) (wpAny_mkStr ?_ (hxs 0 0))
      refine wpAny_bind (wpAny_seqItems hD1 rfl ?_)
      have he : (⟨x.cps.extract 0 0⟩ : Str) = "" := by
        have : x.cps.extract 0 0 = #[] := by simp
        rw [this]; rfl
      split
      · rename_i hemp
        have : zs = #[] := by simpa using hemp
        subst this
        have hall : all = [] := by
          cases hy1; rfl
        refine wpAny_bind (wpAny_pure ?_)
        rw [if_neg (by simp)]
        refine wpAny_pure ?_
        have := r tk1 (tk1 + 1) h1 kk
        rw [← e, hall] at this
        rw [he]
        exact this
      · rw [if_pos (by rfl)]
        refine wpAny_bind (join_list (s := { s with heap := h1, toks := tk1 + 1 }) ⟨_, hD1, rfl, _, rfl⟩ hy1 ?_ fun t' tk => ?_)
        · rw [e, he]; show _ + _ * 0 ≤ _
          rw [Nat.mul_zero]; exact hsum
        · rw [if_neg (by simp)]
          have := r t' tk h1 kk
          rw [← e] at this
          rw [he]
          exact wpAny_pure this
    by_cases hlt : a < x.cps.size
    · rw [if_pos (by simpa using hlt)]
      refine wpAny_bind (m := mkStr _) (wpAny_mkStr ?_ (hxs _ _))
      have hys : ys.size ≤ 2 ^ 20 := by
        have := hy.length
        rw [Array.length_toList] at this
        rw [List.length_append] at hlen
        omega
      refine wpAny_bind (push_at (s := { s with toks := s.toks + 1 }) hD hys fun h' hs' hD' => ?_)
      exact fin h' _ _ _ _ (fun b o n e => (hs'.2 b n).trans e) hD' (strs_push hy _ _) (by rw [if_pos hlt, Int.toNat_natCast])
    · rw [if_neg (by simpa using hlt)]
      exact fin s.heap s.toks ys k _ (fun b o _ e => e) hD hy (by rw [if_neg hlt]; simp)
  | @hit a must b e rest hs _ ih =>
    intro s ys k prev n p pk hD hy hsum hlen r
    refine codeAny_builtin re_entry_loop ?_
    rw [Around.under_plainId re_plain_loop]
    unfold Builtin.«re.Pattern.sub.loop»
    refine wpAny_bind (wp_whole p ?_)
    dsimp only
    rw [if_pos (by rfl)]
    refine wpAny_bind (m := Builtin.Re.reLiteralCannotBeTurned _) (wpAny_pure ?_)
    rw [if_neg (by simp)]
    refine wpAny_bind (wp_next (a := (a : Int).toNat) (r := some (b, e)) rfl rfl (by simpa using hs) fun m hmb hme => ?_)
    dsimp only
    rw [hmb, hme]
    have hysz : ∀ {zs : Array Value} {all : List Str}, StrsAre zs.toList all → all.length ≤ 2 ^ 20 → zs.size ≤ 2 ^ 20 := fun h1 h2 => by
      have := h1.length
      rw [Array.length_toList] at this
      omega
    have fin : ∀ (h1 : Heap) (tk1 : Nat) (zs : Array Value) (k1 : Nat) (all : List Str), Heap.SameBut D s.heap h1 ∨ h1 = s.heap → h1.get? D = some (pobj zs k1) → StrsAre zs.toList all → all = prev ++ (if a < b then [⟨x.cps.extract a b⟩] else []) →
        wpAny (model prog w) A.in1 (do
          let item ← pure (Value.str rl tr)
          if (item != Value.none) = true then do
            let _ ← updateSeq D (·.push item)
            again (.builtin "re.Pattern.sub.loop" ⟨[.ref P, .str x t, .str rl tr, rawInt 0, rawInt 0, rawInt ((n : Int) + 1), rawInt (e : Nat), rawInt (e : Nat), .bool (e == b), .ref D, .bool false], []⟩)
          else again (.builtin "re.Pattern.sub.loop" ⟨[.ref P, .str x t, .str rl tr, rawInt 0, rawInt 0, rawInt ((n : Int) + 1), rawInt (e : Nat), rawInt (e : Nat), .bool (e == b), .ref D, .bool false], []⟩))
          (fun fin s' => match fin with
            | .done f => R (.ok f) s'
            | .again c' => c'.quiet = true ∧ codeAny (model prog w) A c' R s') (fun e s' => R (.error e) s') { s with heap := h1, toks := tk1 } := fun h1 tk1 zs k1 all kk hD1 hy1 e1 => by
      refine wpAny_bind (wpAny_pure ?_)
      rw [if_pos (by rfl)]
      have hl1 : all.length ≤ 2 ^ 20 := by
        rw [e1]
        simp only [List.length_append, List.length_cons] at hlen ⊢
        omega
      refine wpAny_bind (push_at (s := { s with heap := h1, toks := tk1 }) hD1 (hysz hy1 hl1) fun h2 hs2 hD2 => wpAny_pure ⟨plainId_quiet re_plain_loop _, ?_⟩)
      have k2 : ∀ c o, c ≠ D → s.heap.get? c = some o → h2.get? c = some o := fun c o nc ec => by
        rcases kk with kk | kk
        · exact (hs2.2 c nc).trans ((kk.2 c nc).trans ec)
        · subst kk; exact (hs2.2 c nc).trans ec
      have same2 : Heap.SameBut D s.heap h2 := by
        rcases kk with kk | kk
        · exact kk.trans hs2
        · subst kk; exact hs2
      have eall : all ++ [rl] ++ rest = prev ++ ((if a < b then [⟨x.cps.extract a b⟩] else []) ++ rl :: rest) := by rw [e1]; simp
      have := ih { s with heap := h2, toks := tk1 } (zs.push (.str rl tr)) (k1 + 1) (all ++ [rl]) (n + 1) (pk h2 same2) (fun h' hs' => pk h' (same2.trans hs')) hD2 (strs_push hy1 _ _) (by rw [eall]; exact hsum) (by rw [eall]; exact hlen)
        fun t' tk h' hk => by rw [eall]; exact r t' tk h' fun c o nc ec => hk c o nc (k2 c o nc ec)
      exact this
    by_cases hlt : a < b
    · rw [if_pos (by simpa using hlt)]
      refine wpAny_bind (m := mkStr _) (wpAny_mkStr ?_ (hxs _ _))
      have hl0 : prev.length ≤ 2 ^ 20 := by
        simp only [List.length_append, List.length_cons] at hlen; omega
      refine wpAny_bind (push_at (s := { s with toks := s.toks + 1 }) hD (hysz hy hl0) fun h' hs' hD' => ?_)
      exact fin h' _ _ _ _ (.inl hs') hD' (strs_push hy _ _) (by rw [if_pos hlt, Int.toNat_natCast])
    · rw [if_neg (by simpa using hlt)]
      exact fin s.heap s.toks ys k _ (.inr rfl) hD hy (by rw [if_neg hlt]; simp)
end
end
end Sw

namespace Sw
section
open PySem.Sre

noncomputable def fixL : List Nat → List Nat
  | 13 :: 10 :: r => 13 :: 10 :: fixL r
  | c :: r => if c = 13 ∨ c = 10 then 13 :: 10 :: fixL r else c :: fixL r
  | [] => []
noncomputable def dotL : Bool → List Nat → List Nat
  | _, [] => []
  | true, 46 :: r => 46 :: 46 :: dotL false r
  | b, c :: r => c :: dotL (c == 10) r

theorem fixL_crlf (r : List Nat) : fixL (13 :: 10 :: r) = 13 :: 10 :: fixL r := by rw [fixL]
theorem fixL_cr (r : List Nat) (h : r.head? ≠ some 10) : fixL (13 :: r) = 13 :: 10 :: fixL r := by
  cases r with
  | nil => rfl
  | cons c r =>
    have hc : c ≠ 10 := fun e => h (by rw [e]; rfl)
    rw [fixL]
    · simp
    · rintro r' _ e; simp at e; exact hc e.1
theorem fixL_lf (r : List Nat) : fixL (10 :: r) = 13 :: 10 :: fixL r := by
  rw [fixL]
  · simp
  · rintro r' e; simp at e
theorem fixL_other {c : Nat} (r : List Nat) (h : ¬ eol c) : fixL (c :: r) = c :: fixL r := by
  simp only [eol, not_or] at h
  rw [fixL]
  · simp [h.1, h.2]
  · rintro r' e; exact absurd e h.1
theorem fixL_pre : ∀ (p r : List Nat), (∀ c ∈ p, ¬ eol c) → fixL (p ++ r) = p ++ fixL r
  | [], r, _ => rfl
  | c :: p, r, h => by
    rw [List.cons_append, fixL_other _ (h c List.mem_cons_self), fixL_pre p r fun d hd => h d (List.mem_cons_of_mem _ hd)]; rfl

theorem getD_drop {text : Array Nat} {a j : Nat} : text.getD (a + j) 0 = (text.toList.drop a).getD j 0 := by
  simp [Array.getD_eq_getD_getElem?, List.getD_eq_getElem?_getD]

/-- the first place with p -/
theorem first_of {p : Nat → Prop} : ∀ (n : Nat), (∀ j, j < n → ¬ p j) ∨ ∃ d, d < n ∧ p d ∧ ∀ j, j < d → ¬ p j
  | 0 => .inl fun j h => by omega
  | n + 1 => by
    rcases first_of (p := p) n with h | ⟨d, h1, h2, h3⟩
    · by_cases hn : p n
      · exact .inr ⟨n, by omega, hn, h⟩
      · refine .inl fun j hj => ?_
        by_cases e : j = n
        · subst e; exact hn
        · exact h j (by omega)
    · exact .inr ⟨d, by omega, h2, h3⟩

theorem extract_list (t : Array Nat) (a b : Nat) : (t.extract a b).toList = (t.toList.drop a).take (b - a) := by
  simp [Array.toList_extract, List.extract_eq_take_drop]

theorem run2 {text : Array Nat} : ∀ (m a : Nat) (must : Bool), text.size - a ≤ m → a ≤ text.size →
    ∃ out, SubRun code2 text ⟨#[13, 10]⟩ a must out ∧ (out.map (·.cps.toList)).flatten = fixL (text.toList.drop a) ∧ out.length ≤ 2 * (text.size - a) + 1 ∧ (out.map (·.length)).sum ≤ 2 * (text.size - a) := by
  intro m
  induction m with
  | zero =>
    intro a must hm ha
    have e : a = text.size := by omega
    subst e
    refine ⟨_, .stop (srch2_none fun j h1 h2 => by omega), ?_⟩
    rw [if_neg (by omega)]
    refine ⟨?_, by simp, by simp⟩
    rw [List.drop_of_length_le (by simp)]; rfl
  | succ m ih =>
    intro a must hm ha
    rcases first_of (p := fun j => eol (text.getD (a + j) 0)) (text.size - a) with hn | ⟨d, hd, he, hf⟩
    · refine ⟨_, .stop (srch2_none fun j h1 h2 => by have := hn (j - a) (by omega); rwa [show a + (j - a) = j by omega] at this), ?_⟩
      have hno : ∀ c ∈ text.toList.drop a, ¬ eol c := fun c hc => by
        obtain ⟨i, hi, rfl⟩ := List.getElem_of_mem hc
        have := hn i (by simpa using hi)
        rw [getD_drop, List.getD_eq_getElem?_getD, List.getElem?_eq_getElem hi] at this
        exact this
      have e1 : fixL (text.toList.drop a) = text.toList.drop a := by
        have := fixL_pre (text.toList.drop a) [] hno
        rw [List.append_nil] at this
        rw [this]; show _ ++ [] = _; simp
      rw [e1]
      by_cases hlt : a < text.size
      · rw [if_pos hlt]
        refine ⟨?_, by simp, ?_⟩
        · simp only [List.map_cons, List.map_nil, List.flatten_cons, List.flatten_nil, List.append_nil]
          rw [extract_list]
          exact List.take_of_length_le (by simp)
        · simp only [List.map_cons, List.map_nil, List.sum_cons, List.sum_nil, Str.length]
          simp; omega
      · rw [if_neg hlt]
        have : text.size ≤ a := by omega
        refine ⟨?_, by simp, by simp⟩
        rw [List.drop_of_length_le (by simpa using this)]; rfl
    · have hd' : a + d < text.size := by omega
      have sr := srch2_some (must := must) hd' hf he
      generalize hw : (if text.getD (a + d) 0 = 13 ∧ text.getD (a + d + 1) 0 = 10 then a + d + 2 else a + d + 1) = e at sr
      have hcr : (text.getD (a + d) 0 = 13 ∧ text.getD (a + d + 1) 0 = 10) → a + d + 1 < text.size := fun h => by
        rcases Nat.lt_or_ge (a + d + 1) text.size with h' | h'
        · exact h'
        · have := h.2; rw [Array.getD_eq_getD_getElem?, Array.getElem?_eq_none h'] at this; cases this
      have he1 : a + d < e ∧ e ≤ text.size := by
        by_cases hc : text.getD (a + d) 0 = 13 ∧ text.getD (a + d + 1) 0 = 10
        · rw [if_pos hc] at hw; have := hcr hc; omega
        · rw [if_neg hc] at hw; omega
      obtain ⟨out, h1, h2, h3, h4⟩ := ih e (e == a + d) (by omega) he1.2
      refine ⟨_, .hit sr h1, ?_, ?_, ?_⟩
      · have hsplit : text.toList.drop a = (text.toList.drop a).take d ++ text.toList.drop (a + d) := by
          rw [← List.drop_drop, List.take_append_drop]
        have hpre : ∀ c ∈ (text.toList.drop a).take d, ¬ eol c := fun c hc => by
          obtain ⟨i, hi, rfl⟩ := List.getElem_of_mem hc
          have hi' : i < d := by simp at hi; omega
          have := hf i hi'
          rw [getD_drop, List.getD_eq_getElem?_getD, List.getElem?_eq_getElem (by simp; omega)] at this
          simpa using this
        have hrest : fixL (text.toList.drop (a + d)) = 13 :: 10 :: fixL (text.toList.drop e) := by
          have hcons : text.toList.drop (a + d) = text.getD (a + d) 0 :: text.toList.drop (a + d + 1) := by
            rw [List.drop_eq_getElem_cons (by simpa using hd')]
            simp [Array.getD_eq_getD_getElem?, hd']
          rw [hcons]
          by_cases hc : text.getD (a + d) 0 = 13 ∧ text.getD (a + d + 1) 0 = 10
          · have hlt := hcr hc
            rw [if_pos hc] at hw
            have hcons2 : text.toList.drop (a + d + 1) = text.getD (a + d + 1) 0 :: text.toList.drop (a + d + 2) := by
              rw [List.drop_eq_getElem_cons (by simpa using hlt)]
              simp [Array.getD_eq_getD_getElem?, hlt]
            rw [hcons2, hc.1, hc.2, fixL_crlf, hw]
          · rw [if_neg hc] at hw
            rcases he with h13 | h10
            · rw [h13, fixL_cr, hw]
              intro h
              refine hc ⟨h13, ?_⟩
              have : text.getD (a + d + 1) 0 = (text.toList.drop (a + d + 1)).getD 0 0 := by have := getD_drop (text := text) (a := a + d + 1) (j := 0); simpa using this
              rw [this, List.getD_eq_getElem?_getD, ← List.head?_eq_getElem?, h]; rfl
            · rw [h10, fixL_lf, hw]
        rw [hsplit, fixL_pre _ _ hpre, hrest, ← h2]
        by_cases hlt : a < a + d
        · rw [if_pos hlt]
          simp only [List.map_append, List.map_cons, List.map_nil, List.flatten_append, List.flatten_cons, List.flatten_nil, List.append_nil]
          rw [extract_list, show a + d - a = d by omega]
          rfl
        · rw [if_neg hlt]
          have : d = 0 := by omega
          subst this
          simp
      · have : (if a < a + d then [(⟨text.extract a (a + d)⟩ : Str)] else []).length ≤ 1 := by split <;> simp
        simp only [List.length_append, List.length_cons]; omega
      · have : ((if a < a + d then [(⟨text.extract a (a + d)⟩ : Str)] else []).map (·.length)).sum ≤ d := by
          split
          · simp [Str.length]; omega
          · simp
        simp only [List.map_append, List.map_cons, List.sum_append, List.sum_cons]
        have : (⟨#[13, 10]⟩ : Str).length = 2 := rfl
        omega
end
end Sw

namespace Sw
section
open PySem.Sre

noncomputable def lineB (text : Array Nat) (a : Nat) : Bool := a == 0 || text.getD (a - 1) 0 == 10
theorem drop_cons {text : Array Nat} {a : Nat} (h : a < text.size) : text.toList.drop a = text.getD a 0 :: text.toList.drop (a + 1) := by
  rw [List.drop_eq_getElem_cons (by simpa using h)]
  simp [Array.getD_eq_getD_getElem?, h]
theorem dotL_other {b : Bool} {c : Nat} {r : List Nat} (h : ¬ (b = true ∧ c = 46)) : dotL b (c :: r) = c :: dotL (c == 10) r := by
  rw [dotL]
  intro e1 e2
  exact h ⟨e1, e2⟩
theorem lineB_succ {text : Array Nat} {a : Nat} : lineB text (a + 1) = (text.getD a 0 == 10) := by simp [lineB]
theorem lineB_iff {text : Array Nat} {a : Nat} : lineB text a = true ↔ (a = 0 ∨ text.getD (a - 1) 0 = 10) := by
  unfold lineB; rw [Bool.or_eq_true, beq_iff_eq, beq_iff_eq]
theorem dotL_pre {text : Array Nat} : ∀ (d a : Nat), a + d ≤ text.size → (∀ j, j < d → ¬ dotAt text (a + j)) → dotL (lineB text a) (text.toList.drop a) = (text.toList.drop a).take d ++ dotL (lineB text (a + d)) (text.toList.drop (a + d))
  | 0, a, _, _ => by simp
  | d + 1, a, h, hn => by
    have hlt : a < text.size := by omega
    have h0 := hn 0 (by omega)
    rw [Nat.add_zero] at h0
    rw [drop_cons hlt, dotL_other (fun ⟨e1, e2⟩ => h0 ⟨hlt, e2, lineB_iff.mp e1⟩), List.take_succ_cons, List.cons_append]
    congr 1
    rw [← lineB_succ, dotL_pre d (a + 1) (by omega) fun j hj => by have := hn (j + 1) (by omega); rwa [show a + (j + 1) = a + 1 + j by omega] at this]
    rw [show a + 1 + d = a + (d + 1) by omega]

theorem run1 {text : Array Nat} (hsz : text.size ≤ 2 ^ 40) : ∀ (m a : Nat) (must : Bool), text.size - a ≤ m → a ≤ text.size →
    ∃ out, SubRun code1 text ⟨#[46, 46]⟩ a must out ∧ (out.map (·.cps.toList)).flatten = dotL (lineB text a) (text.toList.drop a) ∧ out.length ≤ 2 * (text.size - a) + 1 ∧ (out.map (·.length)).sum ≤ 2 * (text.size - a) := by
  intro m
  induction m with
  | zero =>
    intro a must hm ha
    have e : a = text.size := by omega
    subst e
    refine ⟨_, .stop (srch1_none hsz fun j h1 h => by have := h.1; omega), ?_⟩
    rw [if_neg (by omega)]
    refine ⟨?_, by simp, by simp⟩
    rw [List.drop_of_length_le (by simp)]
    cases lineB text text.size <;> rfl
  | succ m ih =>
    intro a must hm ha
    rcases first_of (p := fun j => dotAt text (a + j)) (text.size - a) with hn | ⟨d, hd, he, hf⟩
    · refine ⟨_, .stop (srch1_none hsz fun j h1 h => by
        have h3 := h.1
        have := hn (j - a) (by omega)
        rw [show a + (j - a) = j by omega] at this; exact this h), ?_⟩
      have e1 : dotL (lineB text a) (text.toList.drop a) = text.toList.drop a := by
        rw [dotL_pre (text.size - a) a (by omega) fun j hj => hn j hj]
        rw [show a + (text.size - a) = text.size by omega, List.drop_of_length_le (l := text.toList) (i := text.size) (by simp)]
        rw [List.take_of_length_le (by simp)]
        have : dotL (lineB text text.size) [] = [] := by cases lineB text text.size <;> rfl
        rw [this, List.append_nil]
      rw [e1]
      by_cases hlt : a < text.size
      · rw [if_pos hlt]
        refine ⟨?_, by simp, ?_⟩
        · simp only [List.map_cons, List.map_nil, List.flatten_cons, List.flatten_nil, List.append_nil]
          rw [extract_list]
          exact List.take_of_length_le (by simp)
        · simp only [List.map_cons, List.map_nil, List.sum_cons, List.sum_nil, Str.length]
          simp; omega
      · rw [if_neg hlt]
        have : text.size ≤ a := by omega
        refine ⟨?_, by simp, by simp⟩
        rw [List.drop_of_length_le (by simpa using this)]; rfl
    · have hd' : a + d < text.size := by omega
      have sr := srch1_some (must := must) hsz he hf
      obtain ⟨out, h1, h2, h3, h4⟩ := ih (a + d + 1) (a + d + 1 == a + d) (by omega) (by omega)
      refine ⟨_, .hit sr h1, ?_, ?_, ?_⟩
      · have hb : lineB text (a + d) = true := lineB_iff.mpr he.2.2
        have hb2 : lineB text (a + d + 1) = false := by rw [lineB_succ, he.2.1]; rfl
        rw [dotL_pre d a (by omega) hf, drop_cons hd', hb, he.2.1]
        show _ = _ ++ (46 :: 46 :: dotL false (text.toList.drop (a + d + 1)))
        rw [← hb2, ← h2]
        by_cases hlt : a < a + d
        · rw [if_pos hlt]
          simp only [List.map_append, List.map_cons, List.map_nil, List.flatten_append, List.flatten_cons, List.flatten_nil, List.append_nil]
          rw [extract_list, show a + d - a = d by omega]
          rfl
        · rw [if_neg hlt]
          have : d = 0 := by omega
          subst this
          simp
      · have : (if a < a + d then [(⟨text.extract a (a + d)⟩ : Str)] else []).length ≤ 1 := by split <;> simp
        simp only [List.length_append, List.length_cons]; omega
      · have : ((if a < a + d then [(⟨text.extract a (a + d)⟩ : Str)] else []).map (·.length)).sum ≤ d := by
          split
          · simp [Str.length]; omega
          · simp
        simp only [List.map_append, List.map_cons, List.sum_append, List.sum_cons]
        have : (⟨#[46, 46]⟩ : Str).length = 2 := rfl
        omega

noncomputable def fixS (x : Str) : Str := ⟨(fixL x.cps.toList).toArray⟩
noncomputable def dotS (x : Str) : Str := ⟨(dotL true x.cps.toList).toArray⟩
theorem Str.ext' {x y : Str} (h : x.cps.toList = y.cps.toList) : x = y := by
  obtain ⟨⟨a⟩⟩ := x; obtain ⟨⟨b⟩⟩ := y; cases h; rfl
theorem join_flat : ∀ (out : List Str), (Txt.join "" out).cps.toList = (out.map (·.cps.toList)).flatten := by
  intro out
  show (Builtin.Str.glued "" out).cps.toList = _
  rw [StrLaws.glued_eq_join]
  have happ : ∀ x y : Str, (x ++ y).cps.toList = x.cps.toList ++ y.cps.toList := fun x y => by
    show (x.cps ++ y.cps).toList = _
    simp
  induction out with
  | nil => rfl
  | cons x r ih =>
    cases r with
    | nil => show x.cps.toList = _; simp
    | cons y r =>
      show (x ++ Str.ofString "" ++ Str.join (Str.ofString "") (y :: r)).cps.toList = _
      rw [happ, happ, ih]
      have : (Str.ofString "").cps.toList = [] := rfl
      rw [this]; simp
theorem run2_all (x : Str) (must : Bool) : ∃ out, SubRun code2 x.cps ⟨#[13, 10]⟩ 0 must out ∧ Txt.join "" out = fixS x ∧ out.length ≤ 2 * x.length + 1 ∧ (out.map (·.length)).sum ≤ 2 * x.length := by
  obtain ⟨out, h1, h2, h3, h4⟩ := run2 (text := x.cps) x.cps.size 0 must (by omega) (by omega)
  exact ⟨out, h1, Str.ext' (by rw [join_flat, h2]; rfl), h3, h4⟩
theorem run1_all (x : Str) (must : Bool) (hsz : x.length ≤ 2 ^ 40) : ∃ out, SubRun code1 x.cps ⟨#[46, 46]⟩ 0 must out ∧ Txt.join "" out = dotS x ∧ out.length ≤ 2 * x.length + 1 ∧ (out.map (·.length)).sum ≤ 2 * x.length := by
  obtain ⟨out, h1, h2, h3, h4⟩ := run1 (text := x.cps) hsz x.cps.size 0 must (by omega) (by omega)
  exact ⟨out, h1, Str.ext' (by rw [join_flat, h2]; rfl), h3, h4⟩
end
end Sw

namespace Sw
section
theorem str_no_call : typeLookup (.type "str") "__call__" = pure none := by rw [typeLookup_type, builtinLookup_eq_fast]; kernel_rfl

theorem PatAt.keep {h h' : Heap} {P : Addr} {code : Array Nat} (p : PatAt h P code) (k : ∀ b o, h.get? b = some o → h'.get? b = some o) : PatAt h' P code := by
  obtain ⟨o, fs, C, oC, items, n, ho, hc, hdd, hd, h5, hoC, r⟩ := p.ex
  exact ⟨o, fs, C, oC, items, n, k _ _ ho, hc, hdd, hd, h5, k _ _ hoC, r⟩

theorem call_resub {W : Wd} {d : Nat} {A : Around} {M : List Addr} {ba : Option Addr} {β : Bk} {s : Shared} {P : Addr} {code : Array Nat} {rl x res : Str} {tr t : Tok} {E : Value → Shared → Prop} {Q : Value → Shared → Prop} (c : Co W d A M ba β s) (p : PatAt W.h0 P code)
    (hx : x.length ≤ 2 ^ 18) (h92 : rl.cps.contains 92 = false) (run : ∃ out, SubRun code x.cps rl 0 false out ∧ Txt.join "" out = res ∧ out.length ≤ 2 * x.length + 1 ∧ (out.map (·.length)).sum ≤ 2 * x.length)
    (q : Post W d A M ba β s (.str res) Q) : wpAny W.md A (call (.builtin "re.Pattern.sub") [.ref P, .str rl tr, .str x t]) Q E s := by
  obtain ⟨out, hr, hj, hl, hs⟩ := run
  have p' : PatAt s.heap P code := p.keep fun b o e => (c.base b o e).1
  obtain ⟨o, fs, C, oC, items, n, ho, hc, hdd, hd, h5, hoC, r⟩ := p'.ex
  refine wpAny_call (codeAny_call_builtin re_slot.plain re_entry (re_slot.check _ _ _ _ _ _ _ _ (show s.TypeIs (.ref P) "re.Pattern" from ⟨o, ho, hc⟩) (re_args _ _ _) ?_))
  show wpAny _ A.in1 (Builtin.Re.reSubstitute "re.Pattern.sub" "sub" false ⟨[.ref P, .str rl tr, .str x t], []⟩) _ _ s
  unfold Builtin.Re.reSubstitute
  dsimp only
  refine wpAny_bind (m := Builtin.Re.reNamed _ _ _ _ _ _) (wpAny_of_eq (a := [some (.str rl tr), some (.str x t), none]) (by rfl) ?_)
  dsimp only
  refine wpAny_bind (wpAny_pure ?_)
  refine wpAny_bind (wpAny_specialOf (typeIs_str _ _ _) str_no_call ?_)
  rw [if_neg (by simp)]
  refine wpAny_bind (m := asStr? _) (wpAny_pure ?_)
  dsimp only
  refine wpAny_bind (wpAny_pure ?_)
  rw [if_neg (by simp), if_pos (by rw [h92]; rfl)]
  refine wpAny_bind (wpAny_pure ?_)
  refine wpAny_bind (wpAny_holding (wp_whole p' ?_))
  rw [if_neg (by simp)]
  obtain ⟨c2, k2, hn, hsz, hf⟩ := push_new c { cls := .type "list", data := .seq (#[] : Array Value) } rfl s.toks
  refine wpAny_bind (new_list (vs := []) ?_ (by decide))
  refine wpAny_pure ⟨plainId_quiet re_plain_loop _, ?_⟩
  have hP : P ≠ s.heap.objs.size := fun e => by rw [e, hn] at ho; cases ho
  have hC : C ≠ s.heap.objs.size := fun e => by rw [e, hn] at hoC; cases hoC
  refine sub_loop (by omega) hr _ #[] 0 [] 0 (p'.keep fun b o e => Heap.get?_push_of_some _ e) (fun h' sb => ?_) hsz .nil (by simp only [List.nil_append]; omega) (by simp only [List.nil_append]; omega) (fun t' tk h' k => ?_)
  · obtain ⟨r1, r2, r3, r4⟩ := r
    exact ⟨o, fs, C, oC, items, n, (sb.2 P hP).trans (Heap.get?_push_of_some _ ho), hc, hdd, hd, h5, (sb.2 C hC).trans (Heap.get?_push_of_some _ hoC), r1, r2, r3, r4⟩
  · rw [List.nil_append, hj]
    have kk : ∀ b o, s.heap.get? b = some o → h'.get? b = some o := fun b o e => k b o (fun z => by rw [z, hn] at e; cases e) (Heap.get?_push_of_some _ e)
    exact q.grow c kk tk (.val (.d (.str _ _)))

theorem Ev.resub {W : Wd} {d : Nat} {σ : Vars} {β : Bk} {g : String} {l : Loc} {P : Addr} {code : Array Nat} {rl x res : Str} {e1 e2 : Expr} {np ap pos : Pos} {pl : Env → Sem Bool} (h : (⟨g, l, .glob⟩ : Var) ∈ σ) (hf : W.gl (Str.ofString g) = some (.ref P)) (p : PatAt W.h0 P code)
    (a : Evs W d σ β [e1, e2] [.d (.str rl), .d (.str x)] β) (hx : x.length ≤ 2 ^ 18) (h92 : rl.cps.contains 92 = false) (run : ∃ out, SubRun code x.cps rl 0 false out ∧ Txt.join "" out = res ∧ out.length ≤ 2 * x.length + 1 ∧ (out.map (·.length)).sum ≤ 2 * x.length)
    (he : ∀ env, eval (.Call (.Attribute (.Name (Str.ofString g) np) (Str.ofString "sub") ap) [e1, e2] [] pos) env = (do
      let ov ← eval (.Name (Str.ofString g) np) env
      standAt ap.atName
      let (f, first) ← holding [ov] (getMethod ov (Str.ofString "sub") (pl env))
      callWith pos f first (backTo pos (starEach [e1, e2] env)) (backToKw pos (keywordEach [] env))) := by intro _; rfl) (hs : ([e1, e2]).all (fun e => !isStarred e) = true := by rfl) :
    Ev W d σ β (.Call (.Attribute (.Name (Str.ofString g) np) (Str.ofString "sub") ap) [e1, e2] [] pos) (.str res) β := .mk fun A env O M ba s E Q st q => by
  refine methodCall_KW (pl := pl env) ?_ (he env)
  refine gl_name st h hf ?_
  have p' : PatAt s.heap P code := p.keep fun b o e => (st.co.base b o e).1
  obtain ⟨o, fs, C, oC, items, n, ho, hc, hdd, hd, h5, hoC, r⟩ := p'.ex
  refine getMethod_builtin (show s.TypeIs (.ref P) "re.Pattern" from ⟨o, ho, hc⟩) re_plainAttrs re_slot re_type (fun b e => by cases e; exact ⟨o, ho, hdd⟩) ?_
  refine callWith_any hs (KeepOk.builtin (W := W)) (a.run A env O M ba s E _ pos st fun vs h1 tk1 c1 k1 r1 => ⟨fun b o e => (c1.base b o e).1, ?_⟩)
  obtain ⟨v, u, rfl, pa, pb⟩ := r1.two
  obtain ⟨ta, rfl⟩ := pa.str
  obtain ⟨tb, rfl⟩ := pb.str
  exact call_resub c1 p hx h92 run (Post.later (s := s) st.co c1 k1 q)
end
end Sw

namespace Sw
section
section
/-- a def of the program's top -/
structure GDef (W : Wd) (x : String) (k : Nat) (pn : List String) : Prop where
  ex : ∃ f, W.gl (Str.ofString x) = some (.ref f) ∧ DefAt W f pn (fscope k tops) (fbody k tops) ∧ KeepOk W (.ref f)
theorem Fn.of {W : Wd} {d : Nat} {x : String} {k : Nat} {pn : List String} {ps : List PV} {σ : Vars} {β β' : Bk} {p : PV} (g : GDef W x k pn) (hlen : pn.length = ps.length) (hnd : (pn.map Str.ofString).Nodup) (hfv : FV (fscope k tops).names (pn.zip ps) σ)
    (b : Ex W d σ β (fbody k tops) (.ret p) β') : Fn W (d + 1) x ps β (.val p) β' := by
  obtain ⟨f, hf, hd, hk⟩ := g.ex
  exact ⟨.ref f, hf, hk, Op.def hd hlen hnd hfv b⟩
theorem Fn.deep {W : Wd} {d d' : Nat} {x : String} {ps : List PV} {β β' : Bk} {r : Res} (f : Fn W d' x ps β r β') (h : d' ≤ d) : Fn W d x ps β r β' := by
  obtain ⟨f, h1, h2, h3⟩ := f.ex
  exact ⟨f, h1, h2, h3.deep h⟩
/-- a global text -/
theorem Ev.globStr {W : Wd} {d : Nat} {σ : Vars} {β : Bk} {g : String} {l : Loc} {y : Str} {t : Tok} {pos : Pos} (h : (⟨g, l, .glob⟩ : Var) ∈ σ) (hf : W.gl (Str.ofString g) = some (.str y t)) : Ev W d σ β (.Name (Str.ofString g) pos) (.str y) β := .mk fun A env O M ba s E Q st q =>
  gl_name st h hf (q _ s.heap s.toks st.co (Kp.refl _ _) (.val (.d (.str _ _))))

theorem Str.length_append' (x y : Str) : (x ++ y).length = x.length + y.length := by
  show (x.cps ++ y.cps).size = _
  rw [Array.size_append]; rfl



noncomputable def marks : List Str := ["", "a", " .", "\n\n\r\r ."]
noncomputable def marksE : List Str := ["", "a", " .", "\r\n\r\n\r\n\r\n ."]
noncomputable def ends : List Str := ["\n", "\r", "\r\n"]
noncomputable def laid (d : Nat) : Str := (Str.ofString "." ++ marks.getD (d / 6 % 4) "") ++ ends.getD (d / 2 % 3) ""
noncomputable def even (d : Nat) : Str := (Str.ofString "." ++ marksE.getD (d / 6 % 4) "") ++ Str.ofString "\r\n"
theorem getD_len (l : List Str) (B : Nat) (h : ∀ x ∈ l, x.length ≤ B) (n : Nat) : (l.getD n "").length ≤ B := by
  rw [List.getD_eq_getElem?_getD]
  cases e : l[n]? with
  | none => exact Nat.zero_le _
  | some x => exact h x (List.mem_of_getElem? e)
theorem marks_len (n : Nat) : (marks.getD n "").length ≤ 6 := getD_len _ _ (by decide) n
theorem marksE_len (n : Nat) : (marksE.getD n "").length ≤ 10 := getD_len _ _ (by decide) n
theorem ends_len (n : Nat) : (ends.getD n "").length ≤ 2 := getD_len _ _ (by decide) n
theorem laid_len (n : Nat) : (laid n).length ≤ 9 := by
  unfold laid
  rw [Str.length_append', Str.length_append']
  have := marks_len (n / 6 % 4)
  have := ends_len (n / 2 % 3)
  have : (Str.ofString ".").length = 1 := rfl
  omega
theorem even_len (n : Nat) : (even n).length ≤ 13 := by
  unfold even
  rw [Str.length_append', Str.length_append']
  have := marksE_len (n / 6 % 4)
  have : (Str.ofString ".").length = 1 := rfl
  have : (Str.ofString "\r\n").length = 2 := rfl
  omega
theorem pick_at (l : List Str) (k : Nat) (h : k < l.length) (i : Int) (hi : i = (k : Int)) : (l.map PyData.str)[i.toNat]? = some (.str (l.getD k "")) := by
  subst hi
  simp [List.getD_eq_getElem?_getD, h]

theorem laid_fn {W : Wd} {β : Bk} {d : Nat} {n : Nat} (g : GDef W "_law_laid" 15 ["d"]) : Fn W (d + 1) "_law_laid" [.d (.int n)] β (.str (laid n)) β := by
  refine Fn.of (σ := [⟨"d", .loc, .fz (.d (.int n))⟩]) g rfl (by decide) (.ploc ⟨by decide, by decide⟩ (by decide +kernel) List.mem_cons_self .nil) ?_
  have e1 := pick_at marks (n / 6 % 4) (Nat.mod_lt _ (by decide)) ((n : Int) / 6 % 4) (by omega)
  have e2 := pick_at ends (n / 2 % 3) (Nat.mod_lt _ (by decide)) ((n : Int) / 2 % 3) (by omega)
  have l1 := marks_len (n / 6 % 4)
  have l2 := ends_len (n / 2 % 3)
  have l0 : (Str.ofString ".").length = 1 := rfl
  refine Ex.ret (X1.ret (r := .str _) ?_)
  refine Ev.bink (.str (Str.ofString "." ++ marks.getD (n / 6 % 4) "")) (.str (ends.getD (n / 2 % 3) "")) (Ev.bink (.str ".") (.str (marks.getD (n / 6 % 4) "")) Ev.str ?_ (Op.adds (by omega))) ?_ (Op.adds (by rw [Str.length_append']; omega))
  · refine Ev.subk (.new (marks.map .str)) (.int ((n : Int) / 6 % 4)) ?_ ?_ (Op.item (by omega) (by omega) e1)
    · (apply Ev.listd; (focus (repeat' (first | exact Evs.nil | exact Ev.int | exact Ev.str | exact Ev.boolc | exact Ev.var (by (repeat (first | exact List.mem_cons_self | refine List.mem_cons_of_mem _ ?_))) | (intro _; rfl) | apply Evs.consk))); all_goals (first | rfl | decide))
    · (first | exact Ev.int | exact Ev.str | exact Ev.boolc | exact Ev.var (by (repeat (first | exact List.mem_cons_self | refine List.mem_cons_of_mem _ ?_))) | (apply Ev.bin; (first | exact Ev.int | exact Ev.str | exact Ev.boolc | exact Ev.var (by (repeat (first | exact List.mem_cons_self | refine List.mem_cons_of_mem _ ?_))) | (apply Ev.bin; (first | exact Ev.int | exact Ev.str | exact Ev.boolc | exact Ev.var (by (repeat (first | exact List.mem_cons_self | refine List.mem_cons_of_mem _ ?_)))); (first | exact Ev.int | exact Ev.str | exact Ev.boolc | exact Ev.var (by (repeat (first | exact List.mem_cons_self | refine List.mem_cons_of_mem _ ?_)))); (first | exact Op.add | exact Op.sub | exact Op.mod (by omega) | exact Op.fdiv (by omega) (by omega) | exact Op.lt | exact Op.gt | exact Op.le | exact Op.ge | exact Op.eq | exact Op.ne | exact Op.eqs | exact Op.nes | exact Op.and)) | (apply Ev.cmp; (first | exact Ev.int | exact Ev.str | exact Ev.boolc | exact Ev.var (by (repeat (first | exact List.mem_cons_self | refine List.mem_cons_of_mem _ ?_)))); (first | exact Ev.int | exact Ev.str | exact Ev.boolc | exact Ev.var (by (repeat (first | exact List.mem_cons_self | refine List.mem_cons_of_mem _ ?_)))); (first | exact Op.add | exact Op.sub | exact Op.mod (by omega) | exact Op.fdiv (by omega) (by omega) | exact Op.lt | exact Op.gt | exact Op.le | exact Op.ge | exact Op.eq | exact Op.ne | exact Op.eqs | exact Op.nes | exact Op.and); rfl)); (first | exact Ev.int | exact Ev.str | exact Ev.boolc | exact Ev.var (by (repeat (first | exact List.mem_cons_self | refine List.mem_cons_of_mem _ ?_))) | (apply Ev.bin; (first | exact Ev.int | exact Ev.str | exact Ev.boolc | exact Ev.var (by (repeat (first | exact List.mem_cons_self | refine List.mem_cons_of_mem _ ?_)))); (first | exact Ev.int | exact Ev.str | exact Ev.boolc | exact Ev.var (by (repeat (first | exact List.mem_cons_self | refine List.mem_cons_of_mem _ ?_)))); (first | exact Op.add | exact Op.sub | exact Op.mod (by omega) | exact Op.fdiv (by omega) (by omega) | exact Op.lt | exact Op.gt | exact Op.le | exact Op.ge | exact Op.eq | exact Op.ne | exact Op.eqs | exact Op.nes | exact Op.and)) | (apply Ev.cmp; (first | exact Ev.int | exact Ev.str | exact Ev.boolc | exact Ev.var (by (repeat (first | exact List.mem_cons_self | refine List.mem_cons_of_mem _ ?_)))); (first | exact Ev.int | exact Ev.str | exact Ev.boolc | exact Ev.var (by (repeat (first | exact List.mem_cons_self | refine List.mem_cons_of_mem _ ?_)))); (first | exact Op.add | exact Op.sub | exact Op.mod (by omega) | exact Op.fdiv (by omega) (by omega) | exact Op.lt | exact Op.gt | exact Op.le | exact Op.ge | exact Op.eq | exact Op.ne | exact Op.eqs | exact Op.nes | exact Op.and); rfl)); (first | exact Op.add | exact Op.sub | exact Op.mod (by omega) | exact Op.fdiv (by omega) (by omega) | exact Op.lt | exact Op.gt | exact Op.le | exact Op.ge | exact Op.eq | exact Op.ne | exact Op.eqs | exact Op.nes | exact Op.and)))
  · refine Ev.subk (.new (ends.map .str)) (.int ((n : Int) / 2 % 3)) ?_ ?_ (Op.item (by omega) (by omega) e2)
    · (apply Ev.listd; (focus (repeat' (first | exact Evs.nil | exact Ev.int | exact Ev.str | exact Ev.boolc | exact Ev.var (by (repeat (first | exact List.mem_cons_self | refine List.mem_cons_of_mem _ ?_))) | (intro _; rfl) | apply Evs.consk))); all_goals (first | rfl | decide))
    · (first | exact Ev.int | exact Ev.str | exact Ev.boolc | exact Ev.var (by (repeat (first | exact List.mem_cons_self | refine List.mem_cons_of_mem _ ?_))) | (apply Ev.bin; (first | exact Ev.int | exact Ev.str | exact Ev.boolc | exact Ev.var (by (repeat (first | exact List.mem_cons_self | refine List.mem_cons_of_mem _ ?_))) | (apply Ev.bin; (first | exact Ev.int | exact Ev.str | exact Ev.boolc | exact Ev.var (by (repeat (first | exact List.mem_cons_self | refine List.mem_cons_of_mem _ ?_)))); (first | exact Ev.int | exact Ev.str | exact Ev.boolc | exact Ev.var (by (repeat (first | exact List.mem_cons_self | refine List.mem_cons_of_mem _ ?_)))); (first | exact Op.add | exact Op.sub | exact Op.mod (by omega) | exact Op.fdiv (by omega) (by omega) | exact Op.lt | exact Op.gt | exact Op.le | exact Op.ge | exact Op.eq | exact Op.ne | exact Op.eqs | exact Op.nes | exact Op.and)) | (apply Ev.cmp; (first | exact Ev.int | exact Ev.str | exact Ev.boolc | exact Ev.var (by (repeat (first | exact List.mem_cons_self | refine List.mem_cons_of_mem _ ?_)))); (first | exact Ev.int | exact Ev.str | exact Ev.boolc | exact Ev.var (by (repeat (first | exact List.mem_cons_self | refine List.mem_cons_of_mem _ ?_)))); (first | exact Op.add | exact Op.sub | exact Op.mod (by omega) | exact Op.fdiv (by omega) (by omega) | exact Op.lt | exact Op.gt | exact Op.le | exact Op.ge | exact Op.eq | exact Op.ne | exact Op.eqs | exact Op.nes | exact Op.and); rfl)); (first | exact Ev.int | exact Ev.str | exact Ev.boolc | exact Ev.var (by (repeat (first | exact List.mem_cons_self | refine List.mem_cons_of_mem _ ?_))) | (apply Ev.bin; (first | exact Ev.int | exact Ev.str | exact Ev.boolc | exact Ev.var (by (repeat (first | exact List.mem_cons_self | refine List.mem_cons_of_mem _ ?_)))); (first | exact Ev.int | exact Ev.str | exact Ev.boolc | exact Ev.var (by (repeat (first | exact List.mem_cons_self | refine List.mem_cons_of_mem _ ?_)))); (first | exact Op.add | exact Op.sub | exact Op.mod (by omega) | exact Op.fdiv (by omega) (by omega) | exact Op.lt | exact Op.gt | exact Op.le | exact Op.ge | exact Op.eq | exact Op.ne | exact Op.eqs | exact Op.nes | exact Op.and)) | (apply Ev.cmp; (first | exact Ev.int | exact Ev.str | exact Ev.boolc | exact Ev.var (by (repeat (first | exact List.mem_cons_self | refine List.mem_cons_of_mem _ ?_)))); (first | exact Ev.int | exact Ev.str | exact Ev.boolc | exact Ev.var (by (repeat (first | exact List.mem_cons_self | refine List.mem_cons_of_mem _ ?_)))); (first | exact Op.add | exact Op.sub | exact Op.mod (by omega) | exact Op.fdiv (by omega) (by omega) | exact Op.lt | exact Op.gt | exact Op.le | exact Op.ge | exact Op.eq | exact Op.ne | exact Op.eqs | exact Op.nes | exact Op.and); rfl)); (first | exact Op.add | exact Op.sub | exact Op.mod (by omega) | exact Op.fdiv (by omega) (by omega) | exact Op.lt | exact Op.gt | exact Op.le | exact Op.ge | exact Op.eq | exact Op.ne | exact Op.eqs | exact Op.nes | exact Op.and)))
theorem even_fn {W : Wd} {β : Bk} {d : Nat} {n : Nat} (g : GDef W "_law_even" 16 ["d"]) : Fn W (d + 1) "_law_even" [.d (.int n)] β (.str (even n)) β := by
  refine Fn.of (σ := [⟨"d", .loc, .fz (.d (.int n))⟩]) g rfl (by decide) (.ploc ⟨by decide, by decide⟩ (by decide +kernel) List.mem_cons_self .nil) ?_
  have e1 := pick_at marksE (n / 6 % 4) (Nat.mod_lt _ (by decide)) ((n : Int) / 6 % 4) (by omega)
  have l1 := marksE_len (n / 6 % 4)
  have l0 : (Str.ofString ".").length = 1 := rfl
  have l2 : (Str.ofString "\r\n").length = 2 := rfl
  refine Ex.ret (X1.ret (r := .str _) ?_)
  refine Ev.bink (.str (Str.ofString "." ++ marksE.getD (n / 6 % 4) "")) (.str "\r\n") (Ev.bink (.str ".") (.str (marksE.getD (n / 6 % 4) "")) Ev.str ?_ (Op.adds (by omega))) Ev.str (Op.adds (by rw [Str.length_append']; omega))
  refine Ev.subk (.new (marksE.map .str)) (.int ((n : Int) / 6 % 4)) ?_ ?_ (Op.item (by omega) (by omega) e1)
  · (apply Ev.listd; (focus (repeat' (first | exact Evs.nil | exact Ev.int | exact Ev.str | exact Ev.boolc | exact Ev.var (by (repeat (first | exact List.mem_cons_self | refine List.mem_cons_of_mem _ ?_))) | (intro _; rfl) | apply Evs.consk))); all_goals (first | rfl | decide))
  · (first | exact Ev.int | exact Ev.str | exact Ev.boolc | exact Ev.var (by (repeat (first | exact List.mem_cons_self | refine List.mem_cons_of_mem _ ?_))) | (apply Ev.bin; (first | exact Ev.int | exact Ev.str | exact Ev.boolc | exact Ev.var (by (repeat (first | exact List.mem_cons_self | refine List.mem_cons_of_mem _ ?_))) | (apply Ev.bin; (first | exact Ev.int | exact Ev.str | exact Ev.boolc | exact Ev.var (by (repeat (first | exact List.mem_cons_self | refine List.mem_cons_of_mem _ ?_)))); (first | exact Ev.int | exact Ev.str | exact Ev.boolc | exact Ev.var (by (repeat (first | exact List.mem_cons_self | refine List.mem_cons_of_mem _ ?_)))); (first | exact Op.add | exact Op.sub | exact Op.mod (by omega) | exact Op.fdiv (by omega) (by omega) | exact Op.lt | exact Op.gt | exact Op.le | exact Op.ge | exact Op.eq | exact Op.ne | exact Op.eqs | exact Op.nes | exact Op.and)) | (apply Ev.cmp; (first | exact Ev.int | exact Ev.str | exact Ev.boolc | exact Ev.var (by (repeat (first | exact List.mem_cons_self | refine List.mem_cons_of_mem _ ?_)))); (first | exact Ev.int | exact Ev.str | exact Ev.boolc | exact Ev.var (by (repeat (first | exact List.mem_cons_self | refine List.mem_cons_of_mem _ ?_)))); (first | exact Op.add | exact Op.sub | exact Op.mod (by omega) | exact Op.fdiv (by omega) (by omega) | exact Op.lt | exact Op.gt | exact Op.le | exact Op.ge | exact Op.eq | exact Op.ne | exact Op.eqs | exact Op.nes | exact Op.and); rfl)); (first | exact Ev.int | exact Ev.str | exact Ev.boolc | exact Ev.var (by (repeat (first | exact List.mem_cons_self | refine List.mem_cons_of_mem _ ?_))) | (apply Ev.bin; (first | exact Ev.int | exact Ev.str | exact Ev.boolc | exact Ev.var (by (repeat (first | exact List.mem_cons_self | refine List.mem_cons_of_mem _ ?_)))); (first | exact Ev.int | exact Ev.str | exact Ev.boolc | exact Ev.var (by (repeat (first | exact List.mem_cons_self | refine List.mem_cons_of_mem _ ?_)))); (first | exact Op.add | exact Op.sub | exact Op.mod (by omega) | exact Op.fdiv (by omega) (by omega) | exact Op.lt | exact Op.gt | exact Op.le | exact Op.ge | exact Op.eq | exact Op.ne | exact Op.eqs | exact Op.nes | exact Op.and)) | (apply Ev.cmp; (first | exact Ev.int | exact Ev.str | exact Ev.boolc | exact Ev.var (by (repeat (first | exact List.mem_cons_self | refine List.mem_cons_of_mem _ ?_)))); (first | exact Ev.int | exact Ev.str | exact Ev.boolc | exact Ev.var (by (repeat (first | exact List.mem_cons_self | refine List.mem_cons_of_mem _ ?_)))); (first | exact Op.add | exact Op.sub | exact Op.mod (by omega) | exact Op.fdiv (by omega) (by omega) | exact Op.lt | exact Op.gt | exact Op.le | exact Op.ge | exact Op.eq | exact Op.ne | exact Op.eqs | exact Op.nes | exact Op.and); rfl)); (first | exact Op.add | exact Op.sub | exact Op.mod (by omega) | exact Op.fdiv (by omega) (by omega) | exact Op.lt | exact Op.gt | exact Op.le | exact Op.ge | exact Op.eq | exact Op.ne | exact Op.eqs | exact Op.nes | exact Op.and)))

structure Pats (W : Wd) : Prop where
  crlf : ∃ t, W.gl (Str.ofString "CRLF") = some (.str "\r\n" t)
  p1 : ∃ P, W.gl (Str.ofString "_twin_re_1") = some (.ref P) ∧ PatAt W.h0 P code1
  p2 : ∃ P, W.gl (Str.ofString "_twin_re_2") = some (.ref P) ∧ PatAt W.h0 P code2
theorem fixS_len (x : Str) : (fixS x).length ≤ 2 * x.length := by
  obtain ⟨out, h1, h2, h3, h4⟩ := run2_all x false
  rw [← h2]
  have e : (Txt.join "" out).length = (out.map (·.length)).sum := by
    show (Txt.join "" out).cps.size = _
    rw [← Array.length_toList, join_flat, List.length_flatten, List.map_map]; rfl
  rw [e]; exact h4
theorem fix_fn {W : Wd} {β : Bk} {d : Nat} {x : Str} (g : GDef W "_fix_eols" 12 ["data"]) (p : Pats W) (hx : x.length ≤ 2 ^ 18) : Fn W (d + 1) "_fix_eols" [.d (.str x)] β (.str (fixS x)) β := by
  obtain ⟨t, hc⟩ := p.crlf
  obtain ⟨P, hP, hp⟩ := p.p2
  refine Fn.of (σ := [⟨"data", .loc, .fz (.d (.str x))⟩, ⟨"_twin_re_2", .loc, .glob⟩, ⟨"CRLF", .loc, .glob⟩]) g rfl (by decide)
    (.ploc ⟨by decide, by decide⟩ (by decide +kernel) List.mem_cons_self (.glob ⟨by decide, by decide⟩ (by decide +kernel) (.glob ⟨by decide, by decide⟩ (by decide +kernel) .nil))) ?_
  refine Ex.ret (X1.ret (r := .str _) ?_)
  exact Ev.resub (by (repeat (first | exact List.mem_cons_self | refine List.mem_cons_of_mem _ ?_))) hP hp (Evs.consk (.str "\r\n") (Ev.globStr (by (repeat (first | exact List.mem_cons_self | refine List.mem_cons_of_mem _ ?_))) hc) (Evs.consk (.str x) (Ev.var (by (repeat (first | exact List.mem_cons_self | refine List.mem_cons_of_mem _ ?_)))) Evs.nil)) hx (by decide +kernel) (run2_all x false)
theorem quote_fn {W : Wd} {β : Bk} {d : Nat} {x : Str} (g : GDef W "quotedata" 11 ["data"]) (p : Pats W) (hx : x.length ≤ 2 ^ 17) : Fn W (d + 1) "quotedata" [.d (.str x)] β (.str (dotS (fixS x))) β := by
  obtain ⟨t, hc⟩ := p.crlf
  obtain ⟨P, hP, hp⟩ := p.p2
  obtain ⟨P1, hP1, hp1⟩ := p.p1
  refine Fn.of (σ := [⟨"data", .loc, .fz (.d (.str x))⟩, ⟨"_twin_re_1", .loc, .glob⟩, ⟨"_twin_re_2", .loc, .glob⟩, ⟨"CRLF", .loc, .glob⟩]) g rfl (by decide)
    (.ploc ⟨by decide, by decide⟩ (by decide +kernel) List.mem_cons_self (.glob ⟨by decide, by decide⟩ (by decide +kernel) (.glob ⟨by decide, by decide⟩ (by decide +kernel) (.glob ⟨by decide, by decide⟩ (by decide +kernel) .nil)))) ?_
  refine Ex.ret (X1.ret (r := .str _) ?_)
  have hl := fixS_len x
  refine Ev.resub (by (repeat (first | exact List.mem_cons_self | refine List.mem_cons_of_mem _ ?_))) hP1 hp1 (Evs.consk (.str "..") Ev.str (Evs.consk (.str (fixS x)) ?_ Evs.nil)) (by omega) (by decide +kernel) (run1_all (fixS x) false (by omega))
  exact Ev.resub (by (repeat (first | exact List.mem_cons_self | refine List.mem_cons_of_mem _ ?_))) hP hp (Evs.consk (.str "\r\n") (Ev.globStr (by (repeat (first | exact List.mem_cons_self | refine List.mem_cons_of_mem _ ?_))) hc) (Evs.consk (.str x) (Ev.var (by (repeat (first | exact List.mem_cons_self | refine List.mem_cons_of_mem _ ?_)))) Evs.nil)) (by omega) (by decide +kernel) (run2_all x false)
end
section
/-- names in the same order: what was set may be forgotten -/
inductive FF : Vars → Vars → Prop
  | nil : FF [] []
  | keep {v r s} : FF r s → FF (v :: r) (v :: s)
  | drop {x l sl r s} : FF r s → sl ≠ .glob → FF (⟨x, l, sl⟩ :: r) (⟨x, l, .unb⟩ :: s)
theorem FF.forgets {a b : Vars} (h : FF a b) : Forgets a b := by
  induction h with
  | nil => intro v hv; cases hv
  | keep _ ih =>
    intro v hv
    rcases List.mem_cons.mp hv with rfl | hv
    · exact .inl List.mem_cons_self
    · rcases ih v hv with h | ⟨h, u, hu, r⟩
      · exact .inl (List.mem_cons_of_mem _ h)
      · exact .inr ⟨h, u, List.mem_cons_of_mem _ hu, r⟩
  | drop _ hg ih =>
    intro v hv
    rcases List.mem_cons.mp hv with rfl | hv
    · exact .inr ⟨rfl, _, List.mem_cons_self, rfl, rfl, hg⟩
    · rcases ih v hv with h | ⟨h, u, hu, r⟩
      · exact .inl (List.mem_cons_of_mem _ h)
      · exact .inr ⟨h, u, List.mem_cons_of_mem _ hu, r⟩
theorem Gh.ff {a b : Vars} (h : FF a b) : Gh a b := Gh.sub h.forgets

/-- a builtin's or type's name -/
structure Blt (W : Wd) : Prop where
  len : W.gl (Str.ofString "len") = some (.builtin "len")
  sum : W.gl (Str.ofString "sum") = some (.builtin "sum")
  min : W.gl (Str.ofString "min") = some (.builtin "min")
  max : W.gl (Str.ofString "max") = some (.builtin "max")
  hex : W.gl (Str.ofString "hex") = some (.builtin "hex")
  range : W.gl (Str.ofString "range") = some (.type "range")
  str : W.gl (Str.ofString "str") = some (.type "str")
  tuple : W.gl (Str.ofString "tuple") = some (.type "tuple")
  enum : W.gl (Str.ofString "enumerate") = some (.type "enumerate")
theorem Fn.b {W : Wd} {d : Nat} {x id : String} {ps : List PV} {β β' : Bk} {r : Res} (h : W.gl (Str.ofString x) = some (.builtin id)) (o : Op W d (bcall id) ps β r β') : Fn W d x ps β r β' := ⟨_, h, KeepOk.builtin, o⟩
theorem Fn.t {W : Wd} {d : Nat} {x id : String} {ps : List PV} {β β' : Bk} {r : Res} (h : W.gl (Str.ofString x) = some (.type id)) (o : Op W d (tcall id) ps β r β') : Fn W d x ps β r β' := ⟨_, h, KeepOk.type, o⟩

/-- a global dict with int keys, asked with a default -/
theorem Ev.tabGet {W : Wd} {d : Nat} {σ : Vars} {β : Bk} {g : String} {l : Loc} {D : Addr} {tab : List (PyData × PyData)} {i : Int} {y z : Str} {e1 e2 : Expr} {np ap pos : Pos} {pl : Env → Sem Bool} (h : (⟨g, l, .glob⟩ : Var) ∈ σ) (hf : W.gl (Str.ofString g) = some (.ref D)) (T : IntTab W.prog W.w W.h0 D tab)
    (a : Evs W d σ β [e1, e2] [.d (.int i), .d (.str y)] β) (hr : (Spec.lookup (.int i) tab).getD (.str y) = .str z)
    (he : ∀ env, eval (.Call (.Attribute (.Name (Str.ofString g) np) (Str.ofString "get") ap) [e1, e2] [] pos) env = (do
      let ov ← eval (.Name (Str.ofString g) np) env
      standAt ap.atName
      let (f, first) ← holding [ov] (getMethod ov (Str.ofString "get") (pl env))
      callWith pos f first (backTo pos (starEach [e1, e2] env)) (backToKw pos (keywordEach [] env))) := by intro _; rfl) (hs : ([e1, e2]).all (fun e => !isStarred e) = true := by rfl) :
    Ev W d σ β (.Call (.Attribute (.Name (Str.ofString g) np) (Str.ofString "get") ap) [e1, e2] [] pos) (.str z) β := .mk fun A env O M ba s E Q st q => by
  have keep : ∀ h' : Heap, (∀ b o, W.h0.get? b = some o → h'.get? b = some o) → IntTab W.prog W.w h' D tab := fun h' k => by
    obtain ⟨hm, kvs, ⟨o, es, ep, ho, r⟩, f⟩ := T
    exact ⟨hm, kvs, ⟨o, es, ep, k _ _ ho, r⟩, f⟩
  refine methodCall_KW (pl := pl env) ?_ (he env)
  refine gl_name st h hf ?_
  refine getMethod_intTab_get (keep _ fun b o e => (st.co.base b o e).1) ?_
  refine callWith_any hs (KeepOk.builtin (W := W)) (a.run A env O M ba s E _ pos st fun vs h1 tk1 c1 k1 r1 => ⟨fun b o e => (c1.base b o e).1, ?_⟩)
  obtain ⟨v, u, rfl, pa, pb⟩ := r1.two
  obtain ⟨ta, rfl⟩ := pa.int
  obtain ⟨tb, rfl⟩ := pb.str
  refine call_get2_intTab (s := { s with heap := h1, toks := tk1 }) (keep _ fun b o e => (c1.base b o e).1) (fun _ => .str y tb) fun v hv => ?_
  rw [hr] at hv
  have hv := hv h1
  cases hv
  exact q _ h1 _ (c1.toks _) k1 (.val (.d (.str _ _)))
end
section
noncomputable def flagTab : List (PyData × PyData) := [(.int 1, .str "OPTIMIZED"), (.int 2, .str "NEWLOCALS"), (.int 4, .str "VARARGS"), (.int 8, .str "VARKEYWORDS"), (.int 16, .str "NESTED"), (.int 32, .str "GENERATOR"), (.int 64, .str "NOFREE"), (.int 128, .str "COROUTINE"), (.int 256, .str "ITERABLE_COROUTINE"), (.int 512, .str "ASYNC_GENERATOR")]
noncomputable def hexS (n : Nat) : Str := PySem.baseText "0x" 16 (n : Int)
noncomputable def flagName (i : Nat) : Str := match Spec.lookup (.int ((2 ^ i : Nat) : Int)) flagTab with | some (.str y) => y | _ => hexS (2 ^ i)
noncomputable def pfL : List Nat → Nat → List Str → List Str
  | [], fl, acc => acc ++ [hexS fl]
  | i :: r, fl, acc => if fl.testBit i = true then (if fl - 2 ^ i = 0 then acc ++ [flagName i] else pfL r (fl - 2 ^ i) (acc ++ [flagName i])) else pfL r fl acc
noncomputable def prettyS (n : Nat) : Str := Txt.join ", " (pfL (List.range 32) n [])

theorem and_pow (fl i : Nat) : Builtin.bitAnd (fl : Int) ((2 ^ i : Nat) : Int) = if fl.testBit i = true then ((2 ^ i : Nat) : Int) else 0 := by
  have h : fl &&& 2 ^ i = if fl.testBit i = true then 2 ^ i else 0 := by
    apply Nat.eq_of_testBit_eq
    intro j
    rw [Nat.testBit_and, Nat.testBit_two_pow]
    by_cases h : fl.testBit i = true
    · rw [if_pos h, Nat.testBit_two_pow]
      by_cases e : i = j
      · subst e; simp [h]
      · simp [e]
    · rw [if_neg h]
      by_cases e : i = j
      · subst e; simp [h]
      · simp [e]
  unfold Builtin.bitAnd
  simp only [Int.natCast_nonneg, decide_true, Int.toNat_natCast, h]
  split <;> rfl
theorem xor_pow (fl i : Nat) (h : fl.testBit i = true) : Builtin.bitXor (fl : Int) ((2 ^ i : Nat) : Int) = ((fl - 2 ^ i : Nat) : Int) := by
  rw [bitXor_and, and_pow, if_pos h]
  have := Nat.ge_two_pow_of_testBit h
  omega
theorem hexS_len {n : Nat} (h : n < 16 ^ 20) : (hexS n).length ≤ 22 := by
  unfold hexS baseText
  rw [Str.length_append', Str.length_append']
  have h0 : ¬ ((n : Int) < 0) := by omega
  rw [if_neg h0]
  have h1 : (Str.ofString "").length = 0 := rfl
  have h2 : (Str.ofString "0x").length = 2 := rfl
  have h3 : (Str.ofString (String.ofList (Nat.toDigits 16 (n : Int).natAbs))).length ≤ 20 := by
    have e : (n : Int).natAbs = n := rfl
    rw [e]
    have := PySem.StrLaws.toDigits_len (k := 20) (by omega) h
    show (Str.ofString (String.ofList (Nat.toDigits 16 n))).cps.size ≤ 20
    rw [Str.ofString_eq_toList]
    simpa using this
  omega
theorem flagName_len {i : Nat} (h : i < 32) : (flagName i).length ≤ 22 := by
  unfold flagName
  have hx := hexS_len (n := 2 ^ i) (Nat.lt_of_lt_of_le (Nat.pow_lt_pow_right (by omega) h) (by decide))
  have key : ∀ k : PyData, ∀ x ∈ Spec.lookup k flagTab, ∀ y, x = .str y → y.length ≤ 22 := by
    intro k x hx y hy
    unfold flagTab at hx
    simp only [Spec.lookup] at hx
    repeat' split at hx
    all_goals (simp only [Option.mem_def, Option.some.injEq, reduceCtorEq] at hx; try (subst hx; cases hy; decide))
  split
  · rename_i y e
    exact key _ _ e y rfl
  · exact hx
end
section
structure Tabs (W : Wd) : Prop where
  fl : ∃ D, W.gl (Str.ofString "COMPILER_FLAG_NAMES") = some (.ref D) ∧ IntTab W.prog W.w W.h0 D flagTab

noncomputable abbrev pfV (flags names i flag : Slot) : Vars := [⟨"flags", .loc, flags⟩, ⟨"names", .loc, names⟩, ⟨"i", .loc, i⟩, ⟨"flag", .loc, flag⟩, ⟨"range", .loc, .glob⟩, ⟨"COMPILER_FLAG_NAMES", .loc, .glob⟩, ⟨"hex", .loc, .glob⟩]
noncomputable abbrev sInt (n : Nat) : Slot := .fz (.d (.int (n : Int)))
noncomputable abbrev sStrs (l : List Str) : Slot := .own (l.map .str)

noncomputable def forTarget : Stmt → Expr
  | .For t _ _ _ _ => t
  | _ => .Constant .none 0 ⟨0, 0, 0, 0⟩
noncomputable def forBody : Stmt → List Stmt
  | .For _ _ b _ _ => b
  | _ => []
noncomputable def forElse : Stmt → List Stmt
  | .For _ _ _ b _ => b
  | _ => []
noncomputable def ifTest : Stmt → Expr
  | .If t _ _ _ => t
  | _ => .Constant .none 0 ⟨0, 0, 0, 0⟩
noncomputable def ifBody : Stmt → List Stmt
  | .If _ b _ _ => b
  | _ => []
noncomputable def callArg : Stmt → Expr
  | .Expr (.Call _ (e :: _) _ _) _ => e
  | _ => .Constant .none 0 ⟨0, 0, 0, 0⟩
theorem Ev.cast {W : Wd} {d : Nat} {σ : Vars} {β β' : Bk} {e : Expr} {r r' : Res} (x : Ev W d σ β e r β') (h : r = r') : Ev W d σ β e r' β' := h ▸ x
theorem Et.cast {W : Wd} {d : Nat} {σ : Vars} {β β' : Bk} {e : Expr} {b b' : Bool} (x : Et W d σ β e b β') (h : b = b') : Et W d σ β e b' β' := h ▸ x
noncomputable def sAt : List Stmt → Nat → Stmt
  | s :: _, 0 => s
  | _ :: r, n + 1 => sAt r n
  | [], _ => .Pass ⟨0, 0, 0, 0⟩

theorem pf_hex {W : Wd} {β : Bk} {d : Nat} {n : Nat} {pos np ap : Pos} (B : Blt W) (hn : n < 16 ^ 20) {x : String} {σ : Vars} (hx : (⟨x, .loc, sInt n⟩ : Var) ∈ σ) (hh : (⟨"hex", .loc, .glob⟩ : Var) ∈ σ) :
    Ev W d σ β (.Call (.Name (Str.ofString "hex") np) [.Name (Str.ofString x) ap] [] pos) (.str (hexS n)) β :=
  Ev.callk hh (Evs.consk (.int (n : Int)) (Ev.var hx) Evs.nil) (Fn.b B.hex (Op.hex (by have := hexS_len hn; unfold hexS at this; omega)))
theorem lookup_str (k : PyData) : ∀ (t : List (PyData × PyData)), (∀ p ∈ t, ∃ y, p.2 = PyData.str y) → Spec.lookup k t = none ∨ ∃ y, Spec.lookup k t = some (.str y)
  | [], _ => .inl rfl
  | (a, b) :: r, h => by
    unfold Spec.lookup
    split
    · obtain ⟨y, e⟩ := h _ List.mem_cons_self
      exact .inr ⟨y, by rw [← e]⟩
    · exact lookup_str k r fun p hp => h p (List.mem_cons_of_mem _ hp)
theorem map_snoc (l : List Str) (x : Str) : l.map PyData.str ++ [.str x] = (l ++ [x]).map .str := by simp

theorem pf_loop {W : Wd} {β : Bk} {d : Nat} (B : Blt W) (T : Tabs W) : ∀ (is : List Nat) (fl : Nat) (acc : List Str), (∀ i ∈ is, i < 32) → fl < 16 ^ 20 → acc.length + is.length ≤ 2 ^ 10 →
    ∃ e, ForRun W d (forTarget (sAt (fbody 6 tops) 1)) (forBody (sAt (fbody 6 tops) 1)) (pfV (sInt fl) (sStrs acc) .unb .unb) β (is.map fun (i : Nat) => .d (.int (0 + (i : Int) * 1))) e β ∧
      FEnd W d (forElse (sAt (fbody 6 tops) 1)) β (.next (pfV .unb (sStrs (pfL is fl acc)) .unb .unb)) β e := by
  intro is
  induction is with
  | nil =>
    intro fl acc _ hfl hacc
    refine ⟨_, .nil, ?_⟩
    refine Ex.cons (σ1 := pfV (sInt fl) (.own (acc.map .str ++ [.str (hexS fl)])) .unb .unb) (X1.append (by (repeat (first | exact List.mem_cons_self | refine List.mem_cons_of_mem _ ?_))) (pf_hex B hfl (by (repeat (first | exact List.mem_cons_self | refine List.mem_cons_of_mem _ ?_))) (by (repeat (first | exact List.mem_cons_self | refine List.mem_cons_of_mem _ ?_)))) (by simp only [List.length_map]; simp at hacc; omega)) ?_
    rw [map_snoc]
    exact Ex.post Ex.nil (Gh.ff (by (repeat (first | exact FF.nil | refine FF.keep ?_ | refine FF.drop ?_ ?_ | simp))))
  | cons i is ih =>
    intro fl acc hi hfl hacc
    have hi32 := hi i List.mem_cons_self
    have hset : SetT (pfV (sInt fl) (sStrs acc) .unb .unb) (forTarget (sAt (fbody 6 tops) 1)) (.d (.int (0 + (i : Int) * 1))) (pfV (sInt fl) (sStrs acc) (.fz (.d (.int (0 + (i : Int) * 1)))) .unb) := .name (by (repeat (first | exact List.mem_cons_self | refine List.mem_cons_of_mem _ ?_))) (by simp) (by simp)
    have assign : X1 W d (pfV (sInt fl) (sStrs acc) (.fz (.d (.int (0 + (i : Int) * 1)))) .unb) β (sAt (forBody (sAt (fbody 6 tops) 1)) 0) (.next (pfV (sInt fl) (sStrs acc) (.fz (.d (.int (0 + (i : Int) * 1)))) (sInt (2 ^ i)))) β := by
      refine X1.assign (r := .int ((2 ^ i : Nat) : Int)) (Ev.cast (Ev.bink (.int 1) (.int (0 + (i : Int) * 1)) Ev.int (Ev.var (by (repeat (first | exact List.mem_cons_self | refine List.mem_cons_of_mem _ ?_)))) (Op.shl (by omega) (by omega) (by decide))) (by simp)) (by (repeat (first | exact List.mem_cons_self | refine List.mem_cons_of_mem _ ?_)))
    have test : Et W d (pfV (sInt fl) (sStrs acc) (.fz (.d (.int (0 + (i : Int) * 1)))) (sInt (2 ^ i))) β (ifTest (sAt (forBody (sAt (fbody 6 tops) 1)) 1)) (fl.testBit i) β := by
      have e : (if fl.testBit i = true then ((2 ^ i : Nat) : Int) else 0) ≠ 0 ↔ fl.testBit i = true := by
        have : (2 ^ i : Nat) ≠ 0 := Nat.pos_iff_ne_zero.mp (Nat.two_pow_pos i)
        by_cases h : fl.testBit i = true
        · rw [if_pos h]; exact ⟨fun _ => h, fun _ => by omega⟩
        · rw [if_neg h]; exact ⟨fun z => absurd rfl z, fun z => absurd z h⟩
      have := Et.of (W := W) (d := d) (Ev.bink (σ := pfV (sInt fl) (sStrs acc) (.fz (.d (.int (0 + (i : Int) * 1)))) (sInt (2 ^ i))) (β := β) (op := .BitAnd) (pos := ⟨65, 11, 65, 23⟩) (.int (fl : Int)) (.int ((2 ^ i : Nat) : Int)) (Ev.var (x := "flags") (pos := ⟨65, 11, 65, 16⟩) (by (repeat (first | exact List.mem_cons_self | refine List.mem_cons_of_mem _ ?_)))) (Ev.var (x := "flag") (pos := ⟨65, 19, 65, 23⟩) (by (repeat (first | exact List.mem_cons_self | refine List.mem_cons_of_mem _ ?_)))) Op.and) Tr.int
      rw [and_pow] at this
      have eb : ((if fl.testBit i = true then ((2 ^ i : Nat) : Int) else 0) != 0) = fl.testBit i := by
        rw [Bool.eq_iff_iff, bne_iff_ne]; exact e
      rw [eb] at this
      exact this
    by_cases hb : fl.testBit i = true
    · have hle := Nat.ge_two_pow_of_testBit hb
      have nm : Ev W d (pfV (sInt fl) (sStrs acc) (.fz (.d (.int (0 + (i : Int) * 1)))) (sInt (2 ^ i))) β (callArg (sAt (ifBody (sAt (forBody (sAt (fbody 6 tops) 1)) 1)) 0)) (.str (flagName i)) β := by
        obtain ⟨D, hD, hT⟩ := T.fl
        refine Ev.tabGet (y := hexS (2 ^ i)) (by (repeat (first | exact List.mem_cons_self | refine List.mem_cons_of_mem _ ?_))) hD hT (Evs.consk (.int ((2 ^ i : Nat) : Int)) (Ev.var (by (repeat (first | exact List.mem_cons_self | refine List.mem_cons_of_mem _ ?_)))) (Evs.consk (.str (hexS (2 ^ i))) (pf_hex B (Nat.lt_of_lt_of_le (Nat.pow_lt_pow_right (by omega) hi32) (by decide)) (by (repeat (first | exact List.mem_cons_self | refine List.mem_cons_of_mem _ ?_))) (by (repeat (first | exact List.mem_cons_self | refine List.mem_cons_of_mem _ ?_)))) Evs.nil)) ?_
        unfold flagName
        generalize hlk : Spec.lookup (.int ((2 ^ i : Nat) : Int)) flagTab = lk
        have : lk = none ∨ ∃ y, lk = some (.str y) := by
          rw [← hlk]
          exact lookup_str _ _ (by intro p hp; simp only [flagTab, List.mem_cons, List.not_mem_nil, or_false] at hp; rcases hp with rfl | rfl | rfl | rfl | rfl | rfl | rfl | rfl | rfl | rfl <;> exact ⟨_, rfl⟩)
        rcases this with h | ⟨y, h⟩ <;> subst h <;> rfl
      have app : X1 W d (pfV (sInt fl) (sStrs acc) (.fz (.d (.int (0 + (i : Int) * 1)))) (sInt (2 ^ i))) β (sAt (ifBody (sAt (forBody (sAt (fbody 6 tops) 1)) 1)) 0) (.next (pfV (sInt fl) (.own (acc.map .str ++ [.str (flagName i)])) (.fz (.d (.int (0 + (i : Int) * 1)))) (sInt (2 ^ i)))) β :=
        X1.append (by (repeat (first | exact List.mem_cons_self | refine List.mem_cons_of_mem _ ?_))) nm (by simp only [List.length_map]; simp at hacc; omega)
      rw [map_snoc] at app
      have xor : X1 W d (pfV (sInt fl) (sStrs (acc ++ [flagName i])) (.fz (.d (.int (0 + (i : Int) * 1)))) (sInt (2 ^ i))) β (sAt (ifBody (sAt (forBody (sAt (fbody 6 tops) 1)) 1)) 1) (.next (pfV (sInt (fl - 2 ^ i)) (sStrs (acc ++ [flagName i])) (.fz (.d (.int (0 + (i : Int) * 1)))) (sInt (2 ^ i)))) β := by
        have := X1.xor (W := W) (d := d) (σ := pfV (sInt fl) (sStrs (acc ++ [flagName i])) (.fz (.d (.int (0 + (i : Int) * 1)))) (sInt (2 ^ i))) (β := β) (β' := β) (x := "flags") (i := (fl : Int)) (j := ((2 ^ i : Nat) : Int)) (l := .loc) (np := ⟨67, 12, 67, 17⟩) (pos := ⟨67, 12, 67, 25⟩) (e := .Name (Str.ofString "flag") ⟨67, 21, 67, 25⟩) (by (repeat (first | exact List.mem_cons_self | refine List.mem_cons_of_mem _ ?_))) rfl (Ev.var (by (repeat (first | exact List.mem_cons_self | refine List.mem_cons_of_mem _ ?_))))
        rw [xor_pow _ _ hb] at this
        exact this
      have test2 : Et W d (pfV (sInt (fl - 2 ^ i)) (sStrs (acc ++ [flagName i])) (.fz (.d (.int (0 + (i : Int) * 1)))) (sInt (2 ^ i))) β (ifTest (sAt (ifBody (sAt (forBody (sAt (fbody 6 tops) 1)) 1)) 2)) (decide (fl - 2 ^ i = 0)) β := by
        have := Et.not (W := W) (d := d) (pos := ⟨68, 15, 68, 24⟩) (Et.of (Ev.var (σ := pfV (sInt (fl - 2 ^ i)) (sStrs (acc ++ [flagName i])) (.fz (.d (.int (0 + (i : Int) * 1)))) (sInt (2 ^ i))) (β := β) (x := "flags") (l := .loc) (pos := ⟨68, 19, 68, 24⟩) (by (repeat (first | exact List.mem_cons_self | refine List.mem_cons_of_mem _ ?_)))) (Tr.int (i := ((fl - 2 ^ i : Nat) : Int))))
        have eb : (!(((fl - 2 ^ i : Nat) : Int) != 0)) = decide (fl - 2 ^ i = 0) := by
          by_cases h : fl - 2 ^ i = 0
          · rw [h]; rfl
          · have : ((fl - 2 ^ i : Nat) : Int) ≠ 0 := by omega
            simp [h, this]
        rw [eb] at this
        exact this
      by_cases hz : fl - 2 ^ i = 0
      · refine ⟨.broke (pfV .unb (sStrs (acc ++ [flagName i])) .unb .unb), .brk (σ1 := pfV (sInt fl) (sStrs acc) (.fz (.d (.int (0 + (i : Int) * 1)))) .unb) hset (Ex.cons assign (Ex.brk (X1.ite test (fun _ => Ex.cons app (Ex.cons xor (Ex.brk (X1.ite test2 (fun _ => Ex.pre (τ := pfV .unb (sStrs (acc ++ [flagName i])) .unb .unb) (Gh.ff (by (repeat (first | exact FF.nil | refine FF.keep ?_ | refine FF.drop ?_ ?_ | simp)))) (Ex.brk X1.break)) fun h => by simp [hz] at h)))) fun h => by rw [hb] at h; cases h))), ?_, rfl⟩
        show Fl.next _ = Fl.next _
        unfold pfL
        rw [if_pos hb, if_pos hz]
      · obtain ⟨e, h1, h2⟩ := ih (fl - 2 ^ i) (acc ++ [flagName i]) (fun j hj => hi j (List.mem_cons_of_mem _ hj)) (Nat.lt_of_le_of_lt (Nat.sub_le _ _) hfl) (by simp at hacc ⊢; omega)
        refine ⟨e, .cons hset (Ex.cons assign (Ex.cons (X1.ite test (fun _ => Ex.cons app (Ex.cons xor (Ex.cons (X1.ite test2 (fun h => by simp [hz] at h) fun _ => Ex.nil) Ex.nil))) fun h => by rw [hb] at h; cases h) (Ex.post Ex.nil (Gh.ff (by (repeat (first | exact FF.nil | refine FF.keep ?_ | refine FF.drop ?_ ?_ | simp))))))) h1, ?_⟩
        unfold pfL
        rw [if_pos hb, if_neg hz]; exact h2
    · obtain ⟨e, h1, h2⟩ := ih fl acc (fun j hj => hi j (List.mem_cons_of_mem _ hj)) hfl (by simp at hacc ⊢; omega)
      refine ⟨e, .cons hset (Ex.cons assign (Ex.cons (X1.ite test (fun h => absurd h hb) fun _ => Ex.nil) (Ex.post Ex.nil (Gh.ff (by (repeat (first | exact FF.nil | refine FF.keep ?_ | refine FF.drop ?_ ?_ | simp))))))) h1, ?_⟩
      unfold pfL
      rw [if_neg hb]; exact h2
end
section
theorem pfL_ok : ∀ (is : List Nat) (fl : Nat) (acc : List Str), (∀ i ∈ is, i < 32) → fl < 16 ^ 20 → (∀ x ∈ acc, x.length ≤ 22) → (pfL is fl acc).length ≤ acc.length + is.length + 1 ∧ ∀ x ∈ pfL is fl acc, x.length ≤ 22
  | [], fl, acc, _, hfl, ha => by
    unfold pfL
    refine ⟨by simp, fun x hx => ?_⟩
    rcases List.mem_append.mp hx with h | h
    · exact ha x h
    · rw [List.mem_singleton.mp h]; exact hexS_len hfl
  | i :: is, fl, acc, hi, hfl, ha => by
    have hi' : ∀ j ∈ is, j < 32 := fun j hj => hi j (List.mem_cons_of_mem _ hj)
    have ha' : ∀ x ∈ acc ++ [flagName i], x.length ≤ 22 := fun x hx => by
      rcases List.mem_append.mp hx with h | h
      · exact ha x h
      · rw [List.mem_singleton.mp h]; exact flagName_len (hi i List.mem_cons_self)
    unfold pfL
    split
    · split
      · exact ⟨by simp, ha'⟩
      · have := pfL_ok is (fl - 2 ^ i) (acc ++ [flagName i]) hi' (Nat.lt_of_le_of_lt (Nat.sub_le _ _) hfl) ha'
        refine ⟨?_, this.2⟩
        have h1 := this.1
        simp at h1 ⊢; omega
    · have := pfL_ok is fl acc hi' hfl ha
      refine ⟨?_, this.2⟩
      have h1 := this.1
      simp at h1 ⊢; omega
theorem sum_len (l : List Str) (B : Nat) (h : ∀ x ∈ l, x.length ≤ B) : (l.map (·.length)).sum ≤ l.length * B := by
  induction l with
  | nil => simp
  | cons x r ih =>
    have := h x List.mem_cons_self
    have := ih fun y hy => h y (List.mem_cons_of_mem _ hy)
    simp only [List.map_cons, List.sum_cons, List.length_cons, Nat.add_mul]
    omega

theorem flat_strs (l : List Str) : ∀ x ∈ l.map PyData.str, Flat x := fun x hx => by
  obtain ⟨y, _, rfl⟩ := List.mem_map.mp hx; exact .str _
theorem flat_ints (l : List Int) : ∀ x ∈ l.map PyData.int, Flat x := fun x hx => by
  obtain ⟨y, _, rfl⟩ := List.mem_map.mp hx; exact .int _

theorem ev_join {W : Wd} {β : Bk} {d : Nat} {σ : Vars} {l : List Str} {x : String} {lo : Loc} {sep : Str} {k : Nat} {p1 ap np pos : Pos} (hx : (⟨x, lo, .fz (.d (.list (l.map .str)))⟩ : Var) ∈ σ) (h : (l.map (·.length)).sum + l.length * sep.length ≤ 16777216)
    {pl : Env → Sem Bool} (he : ∀ env, eval (.Call (.Attribute (.Constant (.str sep) k p1) (Str.ofString "join") ap) [.Name (Str.ofString x) np] [] pos) env = (do
      let ov ← eval (.Constant (.str sep) k p1) env
      standAt ap.atName
      let (f, first) ← holding [ov] (getMethod ov (Str.ofString "join") (pl env))
      callWith pos f first (backTo pos (starEach [.Name (Str.ofString x) np] env)) (backToKw pos (keywordEach [] env))) := by intro _; rfl) :
    Ev W d σ β (.Call (.Attribute (.Constant (.str sep) k p1) (Str.ofString "join") ap) [.Name (Str.ofString x) np] [] pos) (.str (Txt.join sep l)) β :=
  @Ev.meth W d σ β β β β (.Constant (.str sep) k p1) (.str sep) "join" (.Name (Str.ofString x) np) [] [.d (.list (l.map .str))] (.str (Txt.join sep l)) ap pos pl Ev.str (Evs.consk (.dat (.list (l.map .str))) (Ev.var hx) Evs.nil) (Mt.join h) he rfl
set_option maxRecDepth 20000 in
theorem pretty_fn {W : Wd} {β : Bk} {d : Nat} {n : Nat} (g : GDef W "pretty_flags" 6 ["flags"]) (B : Blt W) (T : Tabs W) (hn : n < 16 ^ 20) : Fn W (d + 1) "pretty_flags" [.d (.int n)] β (.str (prettyS n)) β := by
  refine Fn.of (σ := pfV (sInt n) .unb .unb .unb) g rfl (by decide) (.ploc ⟨by decide, by decide⟩ (by decide +kernel) List.mem_cons_self (.loc ⟨by decide, by decide⟩ (by decide +kernel) (.loc ⟨by decide, by decide⟩ (by decide +kernel) (.loc ⟨by decide, by decide⟩ (by decide +kernel)
    (.glob ⟨by decide, by decide⟩ (by decide +kernel) (.glob ⟨by decide, by decide⟩ (by decide +kernel) (.glob ⟨by decide, by decide⟩ (by decide +kernel) .nil))))))) ?_
  have is32 : ∀ i ∈ List.range 32, i < 32 := fun i hi => List.mem_range.mp hi
  obtain ⟨e, h1, h2⟩ := pf_loop (β := β) (d := d) B T (List.range 32) n [] is32 hn (by simp)
  have ok := pfL_ok (List.range 32) n [] is32 hn (by simp)
  unfold prettyS
  generalize pfL (List.range 32) n [] = l at h2 ok
  have h3 := sum_len _ 22 ok.2
  have h4 := ok.1
  simp at h4
  refine Ex.cons (σ1 := pfV (sInt n) (sStrs []) .unb .unb) (X1.assignNew (Ev.listd Evs.nil rfl (by decide)) (by (repeat (first | exact List.mem_cons_self | refine List.mem_cons_of_mem _ ?_)))) ?_
  refine Ex.cons (σ1 := pfV .unb (sStrs l) .unb .unb) (X1.for (r := .val (.rng 0 32 1)) (Ev.callk (by (repeat (first | exact List.mem_cons_self | refine List.mem_cons_of_mem _ ?_))) (Evs.consk (.int 32) Ev.int Evs.nil) (Fn.t B.range Op.range1)) (Items.rng (n := 32) (by decide) (by decide)) h1 h2) ?_
  refine Ex.ret ?_
  refine X1.ret (r := .str (Txt.join ", " l)) ?_
  have fr : FlatR (.str (Txt.join ", " l)) := .val (.str _)
  have hx : (⟨"names", .loc, .fz (.d (.list (l.map .str)))⟩ : Var) ∈ (pfV .unb (sStrs l) .unb .unb).peek := by (repeat (first | exact List.mem_cons_self | refine List.mem_cons_of_mem _ ?_))
  have hs : (l.map (·.length)).sum + l.length * (Str.ofString ", ").length ≤ 16777216 := by rw [show (Str.ofString ", ").length = 2 from rfl]; omega
  refine Ev.peek ?_ ?_
  · refine ev_join (l := l) (x := "names") (lo := .loc) ?_ ?_
    · exact hx
    · exact hs
  · exact fr
end
section
set_option maxRecDepth 20000

theorem RunsS.map {W : Wd} {d : Nat} {σ : Vars} {target : Expr} {ifs : List Expr} {body : Env → Value → Sem Unit} {β : Bk} {α : Type} (f : α → PV) (σ1 : α → Vars) (b : α → Bool) (out : α → List PyData) : ∀ (l : List α), (∀ a ∈ l, SetT σ target (f a) (σ1 a)) → (∀ a ∈ l, Tests W d (σ1 a) β ifs (b a) β) →
    (∀ a ∈ l, b a = true → BodyOk W d (σ1 a) β body (out a) β) → RunsS W d σ target ifs body β (l.map f) (l.flatMap fun a => if b a = true then out a else []) β
  | [], _, _, _ => .nil
  | a :: l, h1, h2, h3 => by
    rw [List.map_cons, List.flatMap_cons]
    refine .cons (h1 a List.mem_cons_self) (h2 a List.mem_cons_self) (fun h => ?_) (fun h => ?_) (RunsS.map f σ1 b out l (fun x hx => h1 x (List.mem_cons_of_mem _ hx)) (fun x hx => h2 x (List.mem_cons_of_mem _ hx)) fun x hx => h3 x (List.mem_cons_of_mem _ hx))
    · rw [if_pos h]; exact h3 a List.mem_cons_self h
    · rw [if_neg (by rw [h]; decide)]; exact ⟨rfl, rfl⟩
theorem filter_flat {α β : Type} (b : α → Bool) (q : α → β) : ∀ l : List α, (l.flatMap fun a => if b a = true then [q a] else []) = (l.filter b).map q
  | [] => rfl
  | a :: l => by
    rw [List.flatMap_cons, List.filter_cons, filter_flat b q l]
    split <;> simp
/-- a comprehension with one clause -/
theorem RunsS.elt {W : Wd} {d : Nat} {σ : Vars} {target elt : Expr} {ifs : List Expr} {β : Bk} {α : Type} (f : α → PV) (σ1 : α → Vars) (b : α → Bool) (q : α → PyData) (l : List α) (h1 : ∀ a ∈ l, SetT σ target (f a) (σ1 a)) (h2 : ∀ a ∈ l, Tests W d (σ1 a) β ifs (b a) β)
    (h3 : ∀ a ∈ l, b a = true → Ev W d (σ1 a) β elt (.dat (q a)) β) : RunsS W d σ target ifs (emitB elt) β (l.map f) ((l.filter b).map q) β := by
  rw [← filter_flat]
  exact RunsS.map f σ1 b (fun a => [q a]) l h1 h2 fun a ha hb => BodyOk.elt (h3 a ha hb)
theorem RunsS.elt0 {W : Wd} {d : Nat} {σ : Vars} {target elt : Expr} {β : Bk} {α : Type} (f : α → PV) (σ1 : α → Vars) (q : α → PyData) (l : List α) (h1 : ∀ a ∈ l, SetT σ target (f a) (σ1 a))
    (h3 : ∀ a ∈ l, Ev W d (σ1 a) β elt (.dat (q a)) β) : RunsS W d σ target [] (emitB elt) β (l.map f) (l.map q) β := by
  have := RunsS.elt (elt := elt) f σ1 (fun _ => true) q l h1 (fun a _ => .nil) fun a ha _ => h3 a ha
  rwa [List.filter_eq_self.mpr (fun a _ => rfl)] at this
theorem Free.name {σ : Vars} {x : String} {p : Pos} (h : ∀ v ∈ σ, v.name = x → v.slot = .unb) : Free σ (.Name (Str.ofString x) p) := fun v hv e => h v hv (ofString_inj e)

section
variable {W : Wd} {d : Nat} {σ σc : Vars} {β : Bk} {elt iter : Expr} {rest : List Comprehension} {scope : Scope} {cpos pos np : Pos} {target : Expr} {ifs : List Expr} {body : Env → Value → Sem Unit} {p : Pos} {x : String} {sl : Slot}
theorem Ex.consk (σ1 : Vars) {st : Stmt} {ss : List Stmt} {o : Fl} (a : X1 W d σ β st (.next σ1) β) (b : Ex W d σ1 β ss o β) : Ex W d σ β (st :: ss) o β := Ex.cons a b
theorem Ev.compk (r : Res) (items : List PV) (σc : Vars) (out : List PyData) (a : Ev W d σ β iter r β) (hi : Items W r.pv items) (hf : FreeOk σ scope.names) (hcv : CV scope.names σ σc) (hr : RunsS W d σc target ifs body β items out β)
    (hfr : Free σc target) (hlen : out.length ≤ 2 ^ 20) (heq : ∀ it acc env, compTurn (.ListComp elt (⟨target, iter, ifs, 0⟩ :: rest) scope pos) 0 it acc env = turnTree (.ListComp elt (⟨target, iter, ifs, 0⟩ :: rest) scope pos) 0 target ifs body p it acc env := by intro _ _ _; rfl)
    (hkind : scope.kind = .function := by rfl) (hnm : ∀ x ∈ scope.names, x.2 = .local → scope.names.lookup x.1 = some .local := by decide)
    (hs : ∀ env x, foldedSetIterable iter env x = pure x := by intro _ _; rfl) : Ev W d σ β (.ListComp elt (⟨target, iter, ifs, 0⟩ :: rest) scope pos) (.new out) β := Ev.comp a hi hf hcv hr heq hfr hlen hkind hnm hs
theorem X1.assignCompk (r : Res) (items : List PV) (σc : Vars) (out : List PyData) (a : Ev W d σ β iter r β) (hi : Items W r.pv items) (hf : FreeOk σ scope.names) (hcv : CV scope.names σ σc) (hr : RunsS W d σc target ifs body β items out β)
    (hfr : Free σc target) (hlen : out.length ≤ 2 ^ 20) (hx : (⟨x, .loc, sl⟩ : Var) ∈ σ) (heq : ∀ it acc env, compTurn (.ListComp elt (⟨target, iter, ifs, 0⟩ :: rest) scope cpos) 0 it acc env = turnTree (.ListComp elt (⟨target, iter, ifs, 0⟩ :: rest) scope cpos) 0 target ifs body p it acc env := by intro _ _ _; rfl)
    (hg : sl ≠ .glob := by simp) (hkind : scope.kind = .function := by rfl) (hnm : ∀ x ∈ scope.names, x.2 = .local → scope.names.lookup x.1 = some .local := by decide)
    (hs : ∀ env x, foldedSetIterable iter env x = pure x := by intro _ _; rfl) (h1 : (np.line == cpos.line) = true := by rfl) (h2 : (scope.names.any fun (n, k) => n == Str.ofString x && (k == .local || k == .cell)) = false := by decide) :
    X1 W d σ β (.Assign [.Name (Str.ofString x) np] (.ListComp elt (⟨target, iter, ifs, 0⟩ :: rest) scope cpos) pos) (.next (σ.put x (.own out))) β := X1.assignComp a hi hf hcv hr heq hfr hlen hx hg hkind hnm hs h1 h2
end

noncomputable def hexw (k : Nat) : Str := ((Str.ofString "0x") ++ (⟨#[(Str.ofString "1248").cps.getD (k % 4) 0]⟩ : Str)) ++ Txt.mul "0" ((k / 4 : Nat) : Int)
noncomputable def flagNames : List Str := ["OPTIMIZED", "NEWLOCALS", "VARARGS", "VARKEYWORDS", "NESTED", "GENERATOR", "NOFREE", "COROUTINE", "ITERABLE_COROUTINE", "ASYNC_GENERATOR"]
noncomputable def highS (h : Nat) : Str := ((Str.ofString "0x") ++ Str.ofString (toString (h : Int))) ++ Str.ofString "00000000"
noncomputable def highOf (ps : List Nat) : Nat := ((ps.filter fun k => decide (32 ≤ k)).map fun k => 2 ^ (k - 32)).sum
noncomputable def wordL (ps : List Nat) : List Str := ((ps.filter fun k => decide (k < 10)).map fun k => flagNames.getD k "") ++ ((ps.filter fun k => decide (10 ≤ k) && decide (k < 32)).map hexw) ++ (if highOf ps = 0 then [] else [highS (highOf ps)])
noncomputable def wordS (ps : List Nat) : Str := if (wordL ps).isEmpty then "0x0" else Txt.join ", " (wordL ps)

noncomputable abbrev dInts (l : List Nat) : PyData := .list (l.map fun (n : Nat) => PyData.int (n : Int))
noncomputable abbrev wdV (places names words high : Slot) : Vars := [⟨"places", .loc, places⟩, ⟨"names", .cell, names⟩, ⟨"words", .loc, words⟩, ⟨"high", .loc, high⟩, ⟨"sum", .loc, .glob⟩, ⟨"str", .loc, .glob⟩]

theorem strOk_of (s : String) : PyData.strOk (Str.ofString s) = true := by
  unfold PyData.strOk
  rw [Str.ofString_eq_toList]
  simp only [List.all_toArray, List.all_map, List.all_eq_true, Function.comp]
  intro ch _
  have := ch.valid
  simp only [decide_eq_true_eq]
  rcases this with h | h
  · show ch.val.toNat < _; have h' : ch.val.toNat < 55296 := h; omega
  · show ch.val.toNat < _; exact h.2
theorem strOk_app {x y : Str} (hx : PyData.strOk x = true) (hy : PyData.strOk y = true) : PyData.strOk (x ++ y) = true := by
  unfold PyData.strOk at *
  show (x.cps ++ y.cps).all _ = true
  rw [Array.all_append, hx, hy]; rfl
theorem canLay_strs : ∀ (l : List Str), (∀ x ∈ l, PyData.strOk x = true) → PyData.canLayAll0 (l.map .str) = true
  | [], _ => rfl
  | x :: l, h => by
    simp only [List.map_cons, PyData.canLayAll0, PyData.canLay0, Bool.and_eq_true]
    exact ⟨h x List.mem_cons_self, canLay_strs l fun y hy => h y (List.mem_cons_of_mem _ hy)⟩
theorem depth_strs : ∀ (l : List Str), PyData.depthAll (l.map .str) = 0
  | [] => rfl
  | x :: l => by simp [PyData.depthAll, PyData.depth, depth_strs l]
theorem shaped_strs {l : List Str} (h : ∀ x ∈ l, PyData.strOk x = true) : SeqAt.shaped (.list (l.map .str)) = true := by
  unfold SeqAt.shaped
  simp [PyData.canLay0, canLay_strs l h, PyData.depth, depth_strs]
theorem hexw_ok : ∀ k < 32, PyData.strOk (hexw k) = true ∧ (hexw k).length ≤ 20 := by decide +kernel
theorem names_ok : ∀ k < 10, PyData.strOk (flagNames.getD k "") = true ∧ (flagNames.getD k "").length ≤ 20 := by decide +kernel
end
section
set_option maxRecDepth 20000

noncomputable abbrev pInts (l : List Nat) : List PV := l.map fun (k : Nat) => PV.d (.int (k : Int))
theorem items_ints {W : Wd} (ps : List Nat) : Items W (.d (dInts ps)) (pInts ps) := by
  have := Items.list (W := W) (ds := ps.map fun (n : Nat) => PyData.int (n : Int))
  rwa [List.map_map] at this
theorem words_st1 {W : Wd} {β : Bk} {d : Nat} {ps : List Nat} (hps : ∀ k ∈ ps, k < 64) (hlen : ps.length ≤ 64) {o : Fl}
    (x : Ex W d (wdV (.fz (.d (dInts ps))) (.fz (.d (.list (flagNames.map .str)))) (.own (((ps.filter fun k => decide (k < 10)).map fun k => flagNames.getD k "").map .str)) .unb) β (fbody 14 tops).tail.tail o β) :
    Ex W d (wdV (.fz (.d (dInts ps))) .unb .unb .unb) β (fbody 14 tops) o β := by
  refine Ex.consk (wdV (.fz (.d (dInts ps))) (.fz (.d (.list (flagNames.map .str)))) .unb .unb) ?_ (Ex.consk _ ?_ x)
  · refine X1.assign (r := .new (flagNames.map .str)) ?_ (by (repeat (first | exact List.mem_cons_self | refine List.mem_cons_of_mem _ ?_)))
    (apply Ev.listd; (focus (repeat' (first | exact Evs.nil | exact Ev.int | exact Ev.str | exact Ev.boolc | exact Ev.var (by (repeat (first | exact List.mem_cons_self | refine List.mem_cons_of_mem _ ?_))) | (intro _; rfl) | apply Evs.consk))); all_goals (first | rfl | decide))
  · refine X1.assignCompk (.dat (dInts ps)) (pInts ps) [⟨"k", .loc, .unb⟩, ⟨"names", .free, .fz (.d (.list (flagNames.map .str)))⟩] _ ?_ ?_ ?_ ?_ ?_ ?_ ?_ (by (repeat (first | exact List.mem_cons_self | refine List.mem_cons_of_mem _ ?_)))
    · exact Ev.var (by (repeat (first | exact List.mem_cons_self | refine List.mem_cons_of_mem _ ?_)))
    · exact items_ints ps
    · exact .skip (by simp) (.skip (by simp) (.free (x := "names") (by (repeat (first | exact List.mem_cons_self | refine List.mem_cons_of_mem _ ?_))) (by simp) .nil))
    · exact .loc ⟨by decide, by decide⟩ (by decide) (.free (by (repeat (first | exact List.mem_cons_self | refine List.mem_cons_of_mem _ ?_))) (by simp) (by decide) .nil)
    · rw [List.map_map]
      refine RunsS.elt (α := Nat) _ (fun (k : Nat) => [⟨"k", .loc, .fz (.d (.int (k : Int)))⟩, ⟨"names", .free, .fz (.d (.list (flagNames.map .str)))⟩]) (fun k => decide (k < 10)) (PyData.str ∘ fun (k : Nat) => flagNames.getD k "") ps ?_ ?_ ?_
      · intro k hk
        exact .name (by (repeat (first | exact List.mem_cons_self | refine List.mem_cons_of_mem _ ?_))) (by simp) (by simp)
      · intro k hk
        refine .one (Et.cast (Et.cmpk (.int (k : Int)) (.int 10) ?_ ?_ Op.lt) ?_)
        · (first | exact Ev.int | exact Ev.str | exact Ev.boolc | exact Ev.var (by (repeat (first | exact List.mem_cons_self | refine List.mem_cons_of_mem _ ?_))) | (apply Ev.bin; (first | exact Ev.int | exact Ev.str | exact Ev.boolc | exact Ev.var (by (repeat (first | exact List.mem_cons_self | refine List.mem_cons_of_mem _ ?_)))); (first | exact Ev.int | exact Ev.str | exact Ev.boolc | exact Ev.var (by (repeat (first | exact List.mem_cons_self | refine List.mem_cons_of_mem _ ?_)))); (first | exact Op.add | exact Op.sub | exact Op.mod (by omega) | exact Op.fdiv (by omega) (by omega) | exact Op.lt | exact Op.gt | exact Op.le | exact Op.ge | exact Op.eq | exact Op.ne | exact Op.eqs | exact Op.nes | exact Op.and)) | (apply Ev.cmp; (first | exact Ev.int | exact Ev.str | exact Ev.boolc | exact Ev.var (by (repeat (first | exact List.mem_cons_self | refine List.mem_cons_of_mem _ ?_)))); (first | exact Ev.int | exact Ev.str | exact Ev.boolc | exact Ev.var (by (repeat (first | exact List.mem_cons_self | refine List.mem_cons_of_mem _ ?_)))); (first | exact Op.add | exact Op.sub | exact Op.mod (by omega) | exact Op.fdiv (by omega) (by omega) | exact Op.lt | exact Op.gt | exact Op.le | exact Op.ge | exact Op.eq | exact Op.ne | exact Op.eqs | exact Op.nes | exact Op.and); rfl))
        · (first | exact Ev.int | exact Ev.str | exact Ev.boolc | exact Ev.var (by (repeat (first | exact List.mem_cons_self | refine List.mem_cons_of_mem _ ?_))) | (apply Ev.bin; (first | exact Ev.int | exact Ev.str | exact Ev.boolc | exact Ev.var (by (repeat (first | exact List.mem_cons_self | refine List.mem_cons_of_mem _ ?_)))); (first | exact Ev.int | exact Ev.str | exact Ev.boolc | exact Ev.var (by (repeat (first | exact List.mem_cons_self | refine List.mem_cons_of_mem _ ?_)))); (first | exact Op.add | exact Op.sub | exact Op.mod (by omega) | exact Op.fdiv (by omega) (by omega) | exact Op.lt | exact Op.gt | exact Op.le | exact Op.ge | exact Op.eq | exact Op.ne | exact Op.eqs | exact Op.nes | exact Op.and)) | (apply Ev.cmp; (first | exact Ev.int | exact Ev.str | exact Ev.boolc | exact Ev.var (by (repeat (first | exact List.mem_cons_self | refine List.mem_cons_of_mem _ ?_)))); (first | exact Ev.int | exact Ev.str | exact Ev.boolc | exact Ev.var (by (repeat (first | exact List.mem_cons_self | refine List.mem_cons_of_mem _ ?_)))); (first | exact Op.add | exact Op.sub | exact Op.mod (by omega) | exact Op.fdiv (by omega) (by omega) | exact Op.lt | exact Op.gt | exact Op.le | exact Op.ge | exact Op.eq | exact Op.ne | exact Op.eqs | exact Op.nes | exact Op.and); rfl))
        · exact decide_eq_decide.mpr (by omega)
      · intro k hk hb
        have hb' : k < 10 := by simpa using hb
        refine Ev.subk (.dat (.list (flagNames.map .str))) (.int (k : Int)) ?_ ?_ (Op.item (by omega) (by omega) (pick_at flagNames k hb' _ rfl))
        · exact Ev.var (by (repeat (first | exact List.mem_cons_self | refine List.mem_cons_of_mem _ ?_)))
        · (first | exact Ev.int | exact Ev.str | exact Ev.boolc | exact Ev.var (by (repeat (first | exact List.mem_cons_self | refine List.mem_cons_of_mem _ ?_))) | (apply Ev.bin; (first | exact Ev.int | exact Ev.str | exact Ev.boolc | exact Ev.var (by (repeat (first | exact List.mem_cons_self | refine List.mem_cons_of_mem _ ?_)))); (first | exact Ev.int | exact Ev.str | exact Ev.boolc | exact Ev.var (by (repeat (first | exact List.mem_cons_self | refine List.mem_cons_of_mem _ ?_)))); (first | exact Op.add | exact Op.sub | exact Op.mod (by omega) | exact Op.fdiv (by omega) (by omega) | exact Op.lt | exact Op.gt | exact Op.le | exact Op.ge | exact Op.eq | exact Op.ne | exact Op.eqs | exact Op.nes | exact Op.and)) | (apply Ev.cmp; (first | exact Ev.int | exact Ev.str | exact Ev.boolc | exact Ev.var (by (repeat (first | exact List.mem_cons_self | refine List.mem_cons_of_mem _ ?_)))); (first | exact Ev.int | exact Ev.str | exact Ev.boolc | exact Ev.var (by (repeat (first | exact List.mem_cons_self | refine List.mem_cons_of_mem _ ?_)))); (first | exact Op.add | exact Op.sub | exact Op.mod (by omega) | exact Op.fdiv (by omega) (by omega) | exact Op.lt | exact Op.gt | exact Op.le | exact Op.ge | exact Op.eq | exact Op.ne | exact Op.eqs | exact Op.nes | exact Op.and); rfl))
    · (refine Free.name ?_; intro v hv e; simp only [List.mem_cons, List.not_mem_nil, or_false] at hv; (repeat (cases hv with | inl h => (subst h; first | rfl | (exfalso; simp at e)) | inr hv => ?_)); all_goals (subst hv; first | rfl | (exfalso; simp at e)))
    · simp only [List.length_map]
      exact Nat.le_trans (List.length_filter_le _ _) (by omega)

theorem dig_at : ∀ j < 4, (Str.ofString "1248").cps[j]? = some ((Str.ofString "1248").cps.getD j 0) := by decide +kernel
theorem words_ext {W : Wd} {β : Bk} {d : Nat} {ps : List Nat} {l : List Str} (hps : ∀ k ∈ ps, k < 64) (hlen : ps.length ≤ 64) (hl : l.length ≤ 64) :
    X1 W d (wdV (.fz (.d (dInts ps))) (.fz (.d (.list (flagNames.map .str)))) (.own (l.map .str)) .unb) β (sAt (fbody 14 tops) 2) (.next (wdV (.fz (.d (dInts ps))) (.fz (.d (.list (flagNames.map .str)))) (.own (l.map .str ++ (((ps.filter fun k => decide (10 ≤ k) && decide (k < 32)).map hexw).map .str))) .unb)) β := by
  refine X1.extend (ys := ((ps.filter fun k => decide (10 ≤ k) && decide (k < 32)).map hexw).map .str) (by (repeat (first | exact List.mem_cons_self | refine List.mem_cons_of_mem _ ?_))) ?_ ?_
  · refine Ev.compk (.dat (dInts ps)) (pInts ps) [⟨"k", .loc, .unb⟩] _ ?_ ?_ ?_ ?_ ?_ ?_ ?_
    · exact Ev.var (by (repeat (first | exact List.mem_cons_self | refine List.mem_cons_of_mem _ ?_)))
    · exact items_ints ps
    · exact .skip (by simp) (.skip (by simp) .nil)
    · exact .loc ⟨by decide, by decide⟩ (by decide) .nil
    · rw [List.map_map]
      refine RunsS.elt (α := Nat) _ (fun (k : Nat) => [⟨"k", .loc, .fz (.d (.int (k : Int)))⟩]) (fun k => decide (10 ≤ k) && decide (k < 32)) (PyData.str ∘ hexw) ps ?_ ?_ ?_
      · intro k hk
        exact .name (by (repeat (first | exact List.mem_cons_self | refine List.mem_cons_of_mem _ ?_))) (by simp) (by simp)
      · intro k hk
        refine .one (Et.cast (Et.chain2 (p := .d (.int 10)) (q := .d (.int (k : Int))) (r := .d (.int 32)) (a := decide ((10 : Int) ≤ (k : Int))) (b := decide ((k : Int) < 32)) ?_ ?_ ?_ Op.le Op.lt) ?_)
        · exact Ev.int
        · exact Ev.var (by (repeat (first | exact List.mem_cons_self | refine List.mem_cons_of_mem _ ?_)))
        · exact Ev.int
        · congr 1
          · exact decide_eq_decide.mpr (by omega)
          · exact decide_eq_decide.mpr (by omega)
      · intro k hk hb
        have hk2 : 10 ≤ k ∧ k < 32 := by simpa using hb
        have e1 := dig_at (k % 4) (Nat.mod_lt _ (by decide))
        have e4 : ((k : Int) / 4) = ((k / 4 : Nat) : Int) := by omega
        have l1 : (Str.ofString "0x").length = 2 := rfl
        have l2 : (⟨#[(Str.ofString "1248").cps.getD (k % 4) 0]⟩ : Str).length = 1 := rfl
        have l3 := (hexw_ok k hk2.2).2
        unfold hexw at l3
        rw [Str.length_append', Str.length_append'] at l3
        refine Ev.bink (.str ((Str.ofString "0x") ++ (⟨#[(Str.ofString "1248").cps.getD (k % 4) 0]⟩ : Str))) (.str (Txt.mul "0" ((k / 4 : Nat) : Int))) ?_ ?_ (Op.adds ?_)
        · refine Ev.bink (.str "0x") (.str ⟨#[(Str.ofString "1248").cps.getD (k % 4) 0]⟩) Ev.str ?_ (Op.adds (by omega))
          refine Ev.subk (.str "1248") (.int ((k : Int) % 4)) Ev.str ?_ (Op.items (by omega) (by omega) ?_)
          · (first | exact Ev.int | exact Ev.str | exact Ev.boolc | exact Ev.var (by (repeat (first | exact List.mem_cons_self | refine List.mem_cons_of_mem _ ?_))) | (apply Ev.bin; (first | exact Ev.int | exact Ev.str | exact Ev.boolc | exact Ev.var (by (repeat (first | exact List.mem_cons_self | refine List.mem_cons_of_mem _ ?_)))); (first | exact Ev.int | exact Ev.str | exact Ev.boolc | exact Ev.var (by (repeat (first | exact List.mem_cons_self | refine List.mem_cons_of_mem _ ?_)))); (first | exact Op.add | exact Op.sub | exact Op.mod (by omega) | exact Op.fdiv (by omega) (by omega) | exact Op.lt | exact Op.gt | exact Op.le | exact Op.ge | exact Op.eq | exact Op.ne | exact Op.eqs | exact Op.nes | exact Op.and)) | (apply Ev.cmp; (first | exact Ev.int | exact Ev.str | exact Ev.boolc | exact Ev.var (by (repeat (first | exact List.mem_cons_self | refine List.mem_cons_of_mem _ ?_)))); (first | exact Ev.int | exact Ev.str | exact Ev.boolc | exact Ev.var (by (repeat (first | exact List.mem_cons_self | refine List.mem_cons_of_mem _ ?_)))); (first | exact Op.add | exact Op.sub | exact Op.mod (by omega) | exact Op.fdiv (by omega) (by omega) | exact Op.lt | exact Op.gt | exact Op.le | exact Op.ge | exact Op.eq | exact Op.ne | exact Op.eqs | exact Op.nes | exact Op.and); rfl))
          · rw [show ((k : Int) % 4).toNat = k % 4 by omega]; exact e1
        · refine Ev.bink (.str "0") (.int ((k / 4 : Nat) : Int)) Ev.str ?_ (Op.muls 1 64 (by decide) (by omega) (by omega) (by decide) (by decide))
          rw [← e4]
          (first | exact Ev.int | exact Ev.str | exact Ev.boolc | exact Ev.var (by (repeat (first | exact List.mem_cons_self | refine List.mem_cons_of_mem _ ?_))) | (apply Ev.bin; (first | exact Ev.int | exact Ev.str | exact Ev.boolc | exact Ev.var (by (repeat (first | exact List.mem_cons_self | refine List.mem_cons_of_mem _ ?_)))); (first | exact Ev.int | exact Ev.str | exact Ev.boolc | exact Ev.var (by (repeat (first | exact List.mem_cons_self | refine List.mem_cons_of_mem _ ?_)))); (first | exact Op.add | exact Op.sub | exact Op.mod (by omega) | exact Op.fdiv (by omega) (by omega) | exact Op.lt | exact Op.gt | exact Op.le | exact Op.ge | exact Op.eq | exact Op.ne | exact Op.eqs | exact Op.nes | exact Op.and)) | (apply Ev.cmp; (first | exact Ev.int | exact Ev.str | exact Ev.boolc | exact Ev.var (by (repeat (first | exact List.mem_cons_self | refine List.mem_cons_of_mem _ ?_)))); (first | exact Ev.int | exact Ev.str | exact Ev.boolc | exact Ev.var (by (repeat (first | exact List.mem_cons_self | refine List.mem_cons_of_mem _ ?_)))); (first | exact Op.add | exact Op.sub | exact Op.mod (by omega) | exact Op.fdiv (by omega) (by omega) | exact Op.lt | exact Op.gt | exact Op.le | exact Op.ge | exact Op.eq | exact Op.ne | exact Op.eqs | exact Op.nes | exact Op.and); rfl))
        · rw [Str.length_append']; omega
    · (refine Free.name ?_; intro v hv e; simp only [List.mem_cons, List.not_mem_nil, or_false] at hv; (repeat (cases hv with | inl h => (subst h; first | rfl | (exfalso; simp at e)) | inr hv => ?_)); all_goals (subst hv; first | rfl | (exfalso; simp at e)))
    · simp only [List.length_map]
      exact Nat.le_trans (List.length_filter_le _ _) (by omega)
  · simp only [List.length_map]
    have := List.length_filter_le (fun k => decide (10 ≤ k) && decide (k < 32)) ps
    omega
end
section
set_option maxRecDepth 20000

theorem sum_cast : ∀ l : List Nat, (l.map fun (n : Nat) => (n : Int)).sum = ((l.sum : Nat) : Int)
  | [] => rfl
  | x :: l => by rw [List.map_cons, List.sum_cons, List.sum_cons, sum_cast l]; omega
theorem words_high {W : Wd} {β : Bk} {d : Nat} {ps : List Nat} {l : List Str} (B : Blt W) (hps : ∀ k ∈ ps, k < 64) (hlen : ps.length ≤ 64) {nm : Slot} :
    X1 W d (wdV (.fz (.d (dInts ps))) nm (.own (l.map .str)) .unb) β (sAt (fbody 14 tops) 3) (.next (wdV (.fz (.d (dInts ps))) nm (.own (l.map .str)) (sInt (highOf ps)))) β := by
  refine X1.assign (r := .int ((highOf ps : Nat) : Int)) ?_ (by (repeat (first | exact List.mem_cons_self | refine List.mem_cons_of_mem _ ?_)))
  have hpow : ∀ k ∈ ps, decide (32 ≤ k) = true → (2 : Int) ^ ((k : Int) - 32).toNat = ((2 ^ (k - 32) : Nat) : Int) := fun k _ h => by
    have h' : 32 ≤ k := by simpa using h
    rw [show ((k : Int) - 32).toNat = k - 32 by omega]
    simp
  refine Ev.cast (Ev.callk (ps := [.d (.list ((((ps.filter fun k => decide (32 ≤ k)).map fun k => 2 ^ (k - 32)).map fun (n : Nat) => (n : Int)).map .int))]) (r := .int (((ps.filter fun k => decide (32 ≤ k)).map fun k => 2 ^ (k - 32)).map fun (n : Nat) => (n : Int)).sum) (by (repeat (first | exact List.mem_cons_self | refine List.mem_cons_of_mem _ ?_))) ?_ (Fn.b B.sum Op.sum)) ?_
  · refine Evs.consk (.new ((((ps.filter fun k => decide (32 ≤ k)).map fun k => 2 ^ (k - 32)).map fun (n : Nat) => (n : Int)).map .int)) ?_ Evs.nil
    refine Ev.compk (.dat (dInts ps)) (pInts ps) [⟨"k", .loc, .unb⟩] _ ?_ ?_ ?_ ?_ ?_ ?_ ?_
    · exact Ev.var (by (repeat (first | exact List.mem_cons_self | refine List.mem_cons_of_mem _ ?_)))
    · exact items_ints ps
    · exact .skip (by simp) (.skip (by simp) .nil)
    · exact .loc ⟨by decide, by decide⟩ (by decide) .nil
    · rw [List.map_map, List.map_map]
      refine RunsS.elt (α := Nat) _ (fun (k : Nat) => [⟨"k", .loc, .fz (.d (.int (k : Int)))⟩]) (fun k => decide (32 ≤ k)) (PyData.int ∘ (fun (n : Nat) => (n : Int)) ∘ fun k => 2 ^ (k - 32)) ps ?_ ?_ ?_
      · intro k hk
        exact .name (by (repeat (first | exact List.mem_cons_self | refine List.mem_cons_of_mem _ ?_))) (by simp) (by simp)
      · intro k hk
        refine .one (Et.cast (Et.cmpk (.int (k : Int)) (.int 32) ?_ ?_ Op.ge) ?_)
        · (first | exact Ev.int | exact Ev.str | exact Ev.boolc | exact Ev.var (by (repeat (first | exact List.mem_cons_self | refine List.mem_cons_of_mem _ ?_))) | (apply Ev.bin; (first | exact Ev.int | exact Ev.str | exact Ev.boolc | exact Ev.var (by (repeat (first | exact List.mem_cons_self | refine List.mem_cons_of_mem _ ?_)))); (first | exact Ev.int | exact Ev.str | exact Ev.boolc | exact Ev.var (by (repeat (first | exact List.mem_cons_self | refine List.mem_cons_of_mem _ ?_)))); (first | exact Op.add | exact Op.sub | exact Op.mod (by omega) | exact Op.fdiv (by omega) (by omega) | exact Op.lt | exact Op.gt | exact Op.le | exact Op.ge | exact Op.eq | exact Op.ne | exact Op.eqs | exact Op.nes | exact Op.and)) | (apply Ev.cmp; (first | exact Ev.int | exact Ev.str | exact Ev.boolc | exact Ev.var (by (repeat (first | exact List.mem_cons_self | refine List.mem_cons_of_mem _ ?_)))); (first | exact Ev.int | exact Ev.str | exact Ev.boolc | exact Ev.var (by (repeat (first | exact List.mem_cons_self | refine List.mem_cons_of_mem _ ?_)))); (first | exact Op.add | exact Op.sub | exact Op.mod (by omega) | exact Op.fdiv (by omega) (by omega) | exact Op.lt | exact Op.gt | exact Op.le | exact Op.ge | exact Op.eq | exact Op.ne | exact Op.eqs | exact Op.nes | exact Op.and); rfl))
        · (first | exact Ev.int | exact Ev.str | exact Ev.boolc | exact Ev.var (by (repeat (first | exact List.mem_cons_self | refine List.mem_cons_of_mem _ ?_))) | (apply Ev.bin; (first | exact Ev.int | exact Ev.str | exact Ev.boolc | exact Ev.var (by (repeat (first | exact List.mem_cons_self | refine List.mem_cons_of_mem _ ?_)))); (first | exact Ev.int | exact Ev.str | exact Ev.boolc | exact Ev.var (by (repeat (first | exact List.mem_cons_self | refine List.mem_cons_of_mem _ ?_)))); (first | exact Op.add | exact Op.sub | exact Op.mod (by omega) | exact Op.fdiv (by omega) (by omega) | exact Op.lt | exact Op.gt | exact Op.le | exact Op.ge | exact Op.eq | exact Op.ne | exact Op.eqs | exact Op.nes | exact Op.and)) | (apply Ev.cmp; (first | exact Ev.int | exact Ev.str | exact Ev.boolc | exact Ev.var (by (repeat (first | exact List.mem_cons_self | refine List.mem_cons_of_mem _ ?_)))); (first | exact Ev.int | exact Ev.str | exact Ev.boolc | exact Ev.var (by (repeat (first | exact List.mem_cons_self | refine List.mem_cons_of_mem _ ?_)))); (first | exact Op.add | exact Op.sub | exact Op.mod (by omega) | exact Op.fdiv (by omega) (by omega) | exact Op.lt | exact Op.gt | exact Op.le | exact Op.ge | exact Op.eq | exact Op.ne | exact Op.eqs | exact Op.nes | exact Op.and); rfl))
        · exact decide_eq_decide.mpr (by omega)
      · intro k hk hb
        have hk3 := hps k hk
        have hb' : 32 ≤ k := by simpa using hb
        refine Ev.cast (Ev.bink (.int 2) (.int ((k : Int) - 32)) Ev.int ?_ (Op.pow (by omega) ?_)) ?_
        · (first | exact Ev.int | exact Ev.str | exact Ev.boolc | exact Ev.var (by (repeat (first | exact List.mem_cons_self | refine List.mem_cons_of_mem _ ?_))) | (apply Ev.bin; (first | exact Ev.int | exact Ev.str | exact Ev.boolc | exact Ev.var (by (repeat (first | exact List.mem_cons_self | refine List.mem_cons_of_mem _ ?_)))); (first | exact Ev.int | exact Ev.str | exact Ev.boolc | exact Ev.var (by (repeat (first | exact List.mem_cons_self | refine List.mem_cons_of_mem _ ?_)))); (first | exact Op.add | exact Op.sub | exact Op.mod (by omega) | exact Op.fdiv (by omega) (by omega) | exact Op.lt | exact Op.gt | exact Op.le | exact Op.ge | exact Op.eq | exact Op.ne | exact Op.eqs | exact Op.nes | exact Op.and)) | (apply Ev.cmp; (first | exact Ev.int | exact Ev.str | exact Ev.boolc | exact Ev.var (by (repeat (first | exact List.mem_cons_self | refine List.mem_cons_of_mem _ ?_)))); (first | exact Ev.int | exact Ev.str | exact Ev.boolc | exact Ev.var (by (repeat (first | exact List.mem_cons_self | refine List.mem_cons_of_mem _ ?_)))); (first | exact Op.add | exact Op.sub | exact Op.mod (by omega) | exact Op.fdiv (by omega) (by omega) | exact Op.lt | exact Op.gt | exact Op.le | exact Op.ge | exact Op.eq | exact Op.ne | exact Op.eqs | exact Op.nes | exact Op.and); rfl))
        · have : Builtin.Int.intBits 2 = 2 := by decide +kernel
          rw [this]; omega
        · show Res.int _ = Res.int _
          rw [hpow k hk hb]; rfl
    · (refine Free.name ?_; intro v hv e; simp only [List.mem_cons, List.not_mem_nil, or_false] at hv; (repeat (cases hv with | inl h => (subst h; first | rfl | (exfalso; simp at e)) | inr hv => ?_)); all_goals (subst hv; first | rfl | (exfalso; simp at e)))
    · simp only [List.length_map]
      exact Nat.le_trans (List.length_filter_le _ _) (by omega)
  · rw [sum_cast]; rfl

theorem toString_len (n : Nat) : (Str.ofString (toString (n : Int))).length ≤ n + 1 := by
  have e : toString (n : Int) = String.ofList (Nat.toDigits 10 n) := rfl
  rw [e]
  show (Str.ofString (String.ofList (Nat.toDigits 10 n))).cps.size ≤ n + 1
  rw [Str.ofString_eq_toList]
  simpa using toDigits_len_le 10 n

theorem words_if {W : Wd} {β : Bk} {d : Nat} {ps : List Nat} {l : List Str} (B : Blt W) (hl : l.length ≤ 200) {h : Nat} (hh : h ≤ 100) {nm : Slot} :
    X1 W d (wdV (.fz (.d (dInts ps))) nm (.own (l.map .str)) (sInt h)) β (sAt (fbody 14 tops) 4) (.next (wdV (.fz (.d (dInts ps))) nm (.own ((l ++ if h = 0 then [] else [highS h]).map .str)) (sInt h))) β := by
  refine X1.ite (b := decide (0 < h)) (β1 := β) ?_ ?_ ?_
  · refine Et.cast (Et.cmpk (.int (h : Int)) (.int 0) ?_ ?_ Op.gt) ?_
    · (first | exact Ev.int | exact Ev.str | exact Ev.boolc | exact Ev.var (by (repeat (first | exact List.mem_cons_self | refine List.mem_cons_of_mem _ ?_))) | (apply Ev.bin; (first | exact Ev.int | exact Ev.str | exact Ev.boolc | exact Ev.var (by (repeat (first | exact List.mem_cons_self | refine List.mem_cons_of_mem _ ?_)))); (first | exact Ev.int | exact Ev.str | exact Ev.boolc | exact Ev.var (by (repeat (first | exact List.mem_cons_self | refine List.mem_cons_of_mem _ ?_)))); (first | exact Op.add | exact Op.sub | exact Op.mod (by omega) | exact Op.fdiv (by omega) (by omega) | exact Op.lt | exact Op.gt | exact Op.le | exact Op.ge | exact Op.eq | exact Op.ne | exact Op.eqs | exact Op.nes | exact Op.and)) | (apply Ev.cmp; (first | exact Ev.int | exact Ev.str | exact Ev.boolc | exact Ev.var (by (repeat (first | exact List.mem_cons_self | refine List.mem_cons_of_mem _ ?_)))); (first | exact Ev.int | exact Ev.str | exact Ev.boolc | exact Ev.var (by (repeat (first | exact List.mem_cons_self | refine List.mem_cons_of_mem _ ?_)))); (first | exact Op.add | exact Op.sub | exact Op.mod (by omega) | exact Op.fdiv (by omega) (by omega) | exact Op.lt | exact Op.gt | exact Op.le | exact Op.ge | exact Op.eq | exact Op.ne | exact Op.eqs | exact Op.nes | exact Op.and); rfl))
    · (first | exact Ev.int | exact Ev.str | exact Ev.boolc | exact Ev.var (by (repeat (first | exact List.mem_cons_self | refine List.mem_cons_of_mem _ ?_))) | (apply Ev.bin; (first | exact Ev.int | exact Ev.str | exact Ev.boolc | exact Ev.var (by (repeat (first | exact List.mem_cons_self | refine List.mem_cons_of_mem _ ?_)))); (first | exact Ev.int | exact Ev.str | exact Ev.boolc | exact Ev.var (by (repeat (first | exact List.mem_cons_self | refine List.mem_cons_of_mem _ ?_)))); (first | exact Op.add | exact Op.sub | exact Op.mod (by omega) | exact Op.fdiv (by omega) (by omega) | exact Op.lt | exact Op.gt | exact Op.le | exact Op.ge | exact Op.eq | exact Op.ne | exact Op.eqs | exact Op.nes | exact Op.and)) | (apply Ev.cmp; (first | exact Ev.int | exact Ev.str | exact Ev.boolc | exact Ev.var (by (repeat (first | exact List.mem_cons_self | refine List.mem_cons_of_mem _ ?_)))); (first | exact Ev.int | exact Ev.str | exact Ev.boolc | exact Ev.var (by (repeat (first | exact List.mem_cons_self | refine List.mem_cons_of_mem _ ?_)))); (first | exact Op.add | exact Op.sub | exact Op.mod (by omega) | exact Op.fdiv (by omega) (by omega) | exact Op.lt | exact Op.gt | exact Op.le | exact Op.ge | exact Op.eq | exact Op.ne | exact Op.eqs | exact Op.nes | exact Op.and); rfl))
    · exact decide_eq_decide.mpr (by omega)
  · intro hb
    have hb' : 0 < h := by simpa using hb
    have l1 := toString_len h
    have l2 : (Str.ofString "0x").length = 2 := rfl
    have l3 : (Str.ofString "00000000").length = 8 := rfl
    rw [if_neg (by omega), ← map_snoc]
    refine Ex.consk _ (X1.append (q := .str (highS h)) (by (repeat (first | exact List.mem_cons_self | refine List.mem_cons_of_mem _ ?_))) ?_ (by simp; omega)) Ex.nil
    refine Ev.bink (.str ((Str.ofString "0x") ++ Str.ofString (toString (h : Int)))) (.str "00000000") ?_ Ev.str (Op.adds (by rw [Str.length_append']; omega))
    refine Ev.bink (.str "0x") (.str (Str.ofString (toString (h : Int)))) Ev.str ?_ (Op.adds (by omega))
    refine Ev.callk (ps := [.d (.int (h : Int))]) (by (repeat (first | exact List.mem_cons_self | refine List.mem_cons_of_mem _ ?_))) (Evs.consk (.int (h : Int)) (Ev.var (by (repeat (first | exact List.mem_cons_self | refine List.mem_cons_of_mem _ ?_)))) Evs.nil) (Fn.t B.str (Op.stri ?_))
    show h.log2 < 1920
    have := (Nat.log2_lt (n := h) (k := 1920) (by omega)).mpr (Nat.lt_of_le_of_lt hh (by decide))
    exact this
  · intro hb
    have hb' : h = 0 := by simpa using hb
    rw [if_pos hb', List.append_nil]
    exact Ex.nil
end
section
set_option maxRecDepth 20000

theorem eqv_nil (l : List Str) : PyData.eqv (.list (l.map .str)) (.list []) = l.isEmpty := by
  cases l <;> simp [PyData.eqv, PyData.eqvAll]
theorem wordL_ok (ps : List Nat) : (∀ x ∈ wordL ps, PyData.strOk x = true) ∧ ((wordL ps).length ≤ 2 * ps.length + 1) ∧ (highOf ps ≤ 100 → ∀ x ∈ wordL ps, x.length ≤ 120) := by
  have h1 : ∀ x ∈ (ps.filter fun k => decide (k < 10)).map fun k => flagNames.getD k "", PyData.strOk x = true ∧ x.length ≤ 120 := fun x hx => by
    obtain ⟨k, hk, rfl⟩ := List.mem_map.mp hx
    have := names_ok k (by simpa using (List.mem_filter.mp hk).2)
    exact ⟨this.1, by omega⟩
  have h2 : ∀ x ∈ (ps.filter fun k => decide (10 ≤ k) && decide (k < 32)).map hexw, PyData.strOk x = true ∧ x.length ≤ 120 := fun x hx => by
    obtain ⟨k, hk, rfl⟩ := List.mem_map.mp hx
    have h := (List.mem_filter.mp hk).2
    simp at h
    have := hexw_ok k h.2
    exact ⟨this.1, by omega⟩
  have h3 : ∀ x ∈ (if highOf ps = 0 then [] else [highS (highOf ps)]), PyData.strOk x = true ∧ (highOf ps ≤ 100 → x.length ≤ 120) := fun x hx => by
    split at hx
    · cases hx
    · rw [List.mem_singleton.mp hx]
      refine ⟨strOk_app (strOk_app (strOk_of _) (strOk_of _)) (strOk_of _), fun h => ?_⟩
      unfold highS
      rw [Str.length_append', Str.length_append']
      have l1 := toString_len (highOf ps)
      have l2 : (Str.ofString "0x").length = 2 := rfl
      have l3 : (Str.ofString "00000000").length = 8 := rfl
      omega
  unfold wordL
  refine ⟨fun x hx => ?_, ?_, fun h x hx => ?_⟩
  · rcases List.mem_append.mp hx with hx | hx
    · rcases List.mem_append.mp hx with hx | hx
      · exact (h1 x hx).1
      · exact (h2 x hx).1
    · exact (h3 x hx).1
  · simp only [List.length_append, List.length_map]
    have a := List.length_filter_le (fun k => decide (k < 10)) ps
    have b := List.length_filter_le (fun k => decide (10 ≤ k) && decide (k < 32)) ps
    have c : (if highOf ps = 0 then [] else [highS (highOf ps)]).length ≤ 1 := by split <;> simp
    omega
  · rcases List.mem_append.mp hx with hx | hx
    · rcases List.mem_append.mp hx with hx | hx
      · exact (h1 x hx).2
      · exact (h2 x hx).2
    · exact (h3 x hx).2 h

theorem words_tail {W : Wd} {β : Bk} {d : Nat} {ps : List Nat} {l : List Str} (hs : ∀ x ∈ l, PyData.strOk x = true) (hl : l.length ≤ 200) (hx : ∀ x ∈ l, x.length ≤ 120) {h : Slot} {nm : Slot} :
    Ex W d (wdV (.fz (.d (dInts ps))) nm (.own (l.map .str)) h) β (fbody 14 tops).tail.tail.tail.tail.tail (.ret (.d (.str (if l.isEmpty then "0x0" else Txt.join ", " l)))) β := by
  have test : Et W d (wdV (.fz (.d (dInts ps))) nm (.own (l.map .str)) h) β (ifTest (sAt (fbody 14 tops) 5)) l.isEmpty β := by
    refine Et.cast (Et.peek (Et.cmpk (.dat (.list (l.map .str))) (.new []) ?_ ?_ (Op.eqd (shaped_strs hs) (by decide +kernel)))) (eqv_nil l)
    · exact Ev.var (by (repeat (first | exact List.mem_cons_self | refine List.mem_cons_of_mem _ ?_)))
    · exact Ev.listd Evs.nil rfl (by decide)
  by_cases he : l.isEmpty = true
  · rw [if_pos he]
    refine Ex.ret (X1.ite test (fun _ => Ex.ret (X1.ret (r := .str "0x0") Ev.str)) fun h => ?_)
    rw [he] at h; cases h
  · rw [if_neg he]
    refine Ex.consk _ (X1.ite test (fun h => absurd h he) fun _ => Ex.nil) ?_
    refine Ex.ret (X1.ret (r := .str (Txt.join ", " l)) (Ev.peek ?_ (.val (.str _))))
    refine ev_join (l := l) (x := "words") (lo := .loc) (by (repeat (first | exact List.mem_cons_self | refine List.mem_cons_of_mem _ ?_))) ?_
    have h3 := sum_len _ 120 hx
    rw [show (Str.ofString ", ").length = 2 from rfl]; omega

theorem words_fn {W : Wd} {β : Bk} {d : Nat} {ps : List Nat} (g : GDef W "_law_words" 14 ["places"]) (B : Blt W) (hps : ∀ k ∈ ps, k < 64) (hlen : ps.length ≤ 64) (hh : highOf ps ≤ 100) : Fn W (d + 1) "_law_words" [.d (dInts ps)] β (.str (wordS ps)) β := by
  refine Fn.of (σ := wdV (.fz (.d (dInts ps))) .unb .unb .unb) g rfl (by decide) (.ploc ⟨by decide, by decide⟩ (by decide +kernel) List.mem_cons_self (.cell ⟨by decide, by decide⟩ (by decide +kernel) (.loc ⟨by decide, by decide⟩ (by decide +kernel) (.loc ⟨by decide, by decide⟩ (by decide +kernel)
    (.glob ⟨by decide, by decide⟩ (by decide +kernel) (.glob ⟨by decide, by decide⟩ (by decide +kernel) .nil)))))) ?_
  obtain ⟨o1, o2, o3⟩ := wordL_ok ps
  have f1 := List.length_filter_le (fun k => decide (k < 10)) ps
  have f2 := List.length_filter_le (fun k => decide (10 ≤ k) && decide (k < 32)) ps
  refine words_st1 hps hlen ?_
  refine Ex.consk _ (words_ext hps hlen (by simp only [List.length_map]; omega)) ?_
  rw [← List.map_append]
  refine Ex.consk _ (words_high B hps hlen) (Ex.consk _ (words_if B (by simp only [List.length_append, List.length_map]; omega) hh) ?_)
  exact words_tail (l := wordL ps) o1 (by omega) (o3 hh)
end
section
set_option maxRecDepth 20000

theorem Ev.neg {W : Wd} {d : Nat} {σ : Vars} {β : Bk} {e : Expr} {a : Int} {pos : Pos} (x : Ev W d σ β e (.int a) β) : Ev W d σ β (.UnaryOp .USub e pos) (.int (-a)) β := .mk fun A env O M ba s E Q st q => by
  refine UnaryOp_ (x.run A env O M ba s E _ st fun v h1 tk1 c1 k1 r1 => ?_)
  cases r1 with
  | val r1 =>
    obtain ⟨t, rfl⟩ := r1.int
    exact P.neg_int (q _ h1 _ (c1.toks _) k1 (.val (.d (.int _ _))))

/-- one place's chunk of a mail -/
noncomputable def freeOf (bits : List Nat) (place : Nat) : Nat := place - (bits.take place).sum
noncomputable def toldOf (ds bits : List Nat) (place : Nat) : Str := if freeOf bits place = 0 then laid (ds.getD place 0) else Txt.mul "." ((freeOf bits place : Nat) : Int) ++ even (ds.getD place 0)
structure Mails where
  mail : Str
  told : Str
  typed : Str
  even : Str
noncomputable def mailStep (ds bits : List Nat) (said : List Str) (m : Mails) (place : Nat) : Mails :=
  { mail := if said.any (fun y => y == wordS [place]) then m.mail ++ laid (ds.getD place 0) else dotS (fixS m.mail)
    told := if bits.getD place 0 = 1 then m.told ++ toldOf ds bits place else m.told
    typed := if bits.getD place 0 = 1 then m.typed ++ laid (ds.getD place 0) else m.typed
    even := if bits.getD place 0 = 1 then m.even ++ Sw.even (ds.getD place 0) else m.even }

theorem dotS_len (x : Str) (h : x.length ≤ 2 ^ 40) : (dotS x).length ≤ 2 * x.length := by
  obtain ⟨out, h1, h2, h3, h4⟩ := run1_all x false h
  rw [← h2]
  have e : (Txt.join "" out).length = (out.map (·.length)).sum := by
    show (Txt.join "" out).cps.size = _
    rw [← Array.length_toList, join_flat, List.length_flatten, List.map_map]; rfl
  rw [e]; exact h4
theorem mulS_len (n : Nat) : (Txt.mul "." ((n : Nat) : Int)).length ≤ n := by
  unfold Txt.mul
  by_cases h1 : ((n : Int)) < 1
  · rw [if_pos h1]; exact Nat.zero_le _
  · rw [if_neg h1]
    split
    · show 1 ≤ n; omega
    · have key : ∀ (k : Nat) (a : Array Nat), ((List.replicate k (Str.ofString ".").cps).foldl (· ++ ·) a).size = a.size + k := by
        intro k
        induction k with
        | zero => intro a; rfl
        | succ k ih =>
          intro a
          rw [List.replicate_succ, List.foldl_cons, ih, Array.size_append]
          have : (Str.ofString ".").cps.size = 1 := rfl
          omega
      show (((List.replicate (n : Int).toNat (Str.ofString ".").cps).foldl (· ++ ·) #[] : Array Nat)).size ≤ n
      rw [key]; simp

noncomputable abbrev mlV (ds bits : List Nat) (said : List Str) (m : Mails) (place free : Slot) : Vars :=
  [⟨"drawn", .loc, .fz (.d (dInts ds))⟩, ⟨"said", .loc, .fz (.d (.list (said.map .str)))⟩, ⟨"bits", .loc, .fz (.d (dInts bits))⟩, ⟨"mail", .loc, .fz (.d (.str m.mail))⟩, ⟨"told", .loc, .fz (.d (.str m.told))⟩, ⟨"typed", .loc, .fz (.d (.str m.typed))⟩, ⟨"even", .loc, .fz (.d (.str m.even))⟩,
   ⟨"place", .loc, place⟩, ⟨"free", .loc, free⟩, ⟨"range", .loc, .glob⟩, ⟨"_law_words", .loc, .glob⟩, ⟨"_law_laid", .loc, .glob⟩, ⟨"quotedata", .loc, .glob⟩, ⟨"sum", .loc, .glob⟩, ⟨"_law_even", .loc, .glob⟩]
structure GMail (W : Wd) : Prop where
  words : GDef W "_law_words" 14 ["places"]
  laid : GDef W "_law_laid" 15 ["d"]
  even : GDef W "_law_even" 16 ["d"]
  quote : GDef W "quotedata" 11 ["data"]
  pats : Pats W
  b : Blt W
theorem any_str (said : List Str) (y : Str) : ((said.map PyData.str).any fun z => PyData.eqv z (.str y)) = said.any (fun z => z == y) := by
  rw [List.any_map]; rfl
theorem at_ints (l : List Nat) (k : Nat) (h : k < l.length) (i : Int) (hi : i = (k : Int)) : (l.map fun (n : Nat) => PyData.int (n : Int))[i.toNat]? = some (.int ((l.getD k 0 : Nat) : Int)) := by
  subst hi
  simp [List.getD_eq_getElem?_getD, h]
theorem words1_ok {p : Nat} (h : p < 32) : highOf [p] ≤ 100 ∧ PyData.strOk (wordS [p]) = true := by
  have hh : highOf [p] = 0 := by
    unfold highOf
    rw [List.filter_cons_of_neg (by simp; omega)]; rfl
  refine ⟨by omega, ?_⟩
  have : ∀ p < 32, PyData.strOk (wordS [p]) = true := by decide +kernel
  exact this p h
end
section
set_option maxRecDepth 20000

theorem ml_laid {W : Wd} {β : Bk} {d : Nat} {ds bits : List Nat} {said : List Str} {m : Mails} {free : Slot} {p : Nat} {n1 n2 n3 n4 n5 : Pos} (G : GMail W) (hp : p < ds.length) (h7 : ds.length ≤ 7) {fn : String} {k : Nat} {res : Nat → Str} (hf : (⟨fn, .loc, .glob⟩ : Var) ∈ mlV ds bits said m (sInt p) free)
    (f : ∀ n, Fn W (d + 1) fn [.d (.int (n : Nat))] β (.str (res n)) β) :
    Ev W (d + 1) (mlV ds bits said m (sInt p) free) β (.Call (.Name (Str.ofString fn) n1) [.Subscript (.Name (Str.ofString "drawn") n2) (.Name (Str.ofString "place") n3) n4] [] n5) (.str (res (ds.getD p 0))) β := by
  refine Ev.callk hf (Evs.consk (.int ((ds.getD p 0 : Nat) : Int)) ?_ Evs.nil) (f _)
  refine Ev.subk (.dat (dInts ds)) (.int (p : Int)) ?_ ?_ (Op.item (by omega) (by omega) (at_ints ds p hp _ rfl))
  · exact Ev.var (by (repeat (first | exact List.mem_cons_self | refine List.mem_cons_of_mem _ ?_)))
  · exact Ev.var (by (repeat (first | exact List.mem_cons_self | refine List.mem_cons_of_mem _ ?_)))

theorem ml_if1 {W : Wd} {β : Bk} {d : Nat} {ds bits : List Nat} {said : List Str} {m : Mails} {free : Slot} {p : Nat} (G : GMail W) (hp : p < ds.length) (h7 : ds.length ≤ 7) (hs : ∀ x ∈ said, PyData.strOk x = true) (hm : m.mail.length ≤ 2 ^ 17) :
    X1 W (d + 1) (mlV ds bits said m (sInt p) free) β (sAt (forBody (sAt (fbody 17 tops) 5)) 0) (.next (mlV ds bits said { m with mail := if said.any (fun y => y == wordS [p]) then m.mail ++ laid (ds.getD p 0) else dotS (fixS m.mail) } (sInt p) free)) β := by
  have w1 := words1_ok (p := p) (by omega)
  refine X1.ite (b := said.any (fun y => y == wordS [p])) (β1 := β) ?_ ?_ ?_
  · refine Et.cast (Et.cmpk (.str (wordS [p])) (.dat (.list (said.map .str))) ?_ ?_ (Op.inl (x := .str (wordS [p])) (by simpa [PyData.canLay0] using w1.2) (canLay_strs said hs) (by simp [PyData.depth]))) (any_str _ _)
    · refine Ev.callk (ps := [.d (dInts [p])]) (by (repeat (first | exact List.mem_cons_self | refine List.mem_cons_of_mem _ ?_))) (Evs.consk (.new [.int (p : Int)]) ?_ Evs.nil) (words_fn (ps := [p]) G.words G.b (by simp; omega) (by simp) w1.1)
      refine Ev.listd (ps := [.d (.int (p : Int))]) (Evs.consk (.int (p : Int)) ?_ Evs.nil) rfl (by simp)
      exact Ev.var (by (repeat (first | exact List.mem_cons_self | refine List.mem_cons_of_mem _ ?_)))
    · exact Ev.var (by (repeat (first | exact List.mem_cons_self | refine List.mem_cons_of_mem _ ?_)))
  · intro h
    rw [if_pos h]
    have l1 := laid_len (ds.getD p 0)
    refine Ex.consk _ (X1.assign (r := .str (m.mail ++ laid (ds.getD p 0))) ?_ (by (repeat (first | exact List.mem_cons_self | refine List.mem_cons_of_mem _ ?_)))) Ex.nil
    refine Ev.bink (.str m.mail) (.str (laid (ds.getD p 0))) ?_ ?_ (Op.adds (by omega))
    · exact Ev.var (by (repeat (first | exact List.mem_cons_self | refine List.mem_cons_of_mem _ ?_)))
    · exact ml_laid (k := 0) G hp h7 (fn := "_law_laid") (by (repeat (first | exact List.mem_cons_self | refine List.mem_cons_of_mem _ ?_))) fun n => laid_fn G.laid
  · intro h
    rw [if_neg (by rw [h]; decide)]
    refine Ex.consk _ (X1.assign (r := .str (dotS (fixS m.mail))) ?_ (by (repeat (first | exact List.mem_cons_self | refine List.mem_cons_of_mem _ ?_)))) Ex.nil
    refine Ev.callk (ps := [.d (.str m.mail)]) (by (repeat (first | exact List.mem_cons_self | refine List.mem_cons_of_mem _ ?_))) (Evs.consk (.str m.mail) ?_ Evs.nil) (quote_fn G.quote G.pats hm)
    exact Ev.var (by (repeat (first | exact List.mem_cons_self | refine List.mem_cons_of_mem _ ?_)))

theorem take_cast (l : List Nat) (k : Nat) : (pickD (l.map fun (n : Nat) => PyData.int (n : Int)) none (some (k : Int)) none) = ((l.take k).map fun (n : Nat) => (n : Int)).map .int := by
  have inj : ∀ x y : PyData, (fun d : PyData => match d with | .int i => Value.int i 0 | _ => .none) x = (fun d : PyData => match d with | .int i => Value.int i 0 | _ => .none) y → True := fun _ _ _ => trivial
  unfold pickD
  have e := slicePick_upto' (((l.map fun (n : Nat) => Value.int (n : Int) 0)).toArray) k
  unfold slicePick at e
  have e2 := congrArg Array.toList e
  simp only [List.size_toArray, List.length_map] at e2 ⊢
  have conv : ∀ idx : List Nat, idx.filterMap ((l.map fun (n : Nat) => PyData.int (n : Int))[·]?) = (idx.filterMap (l[·]?)).map fun (n : Nat) => PyData.int (n : Int) := fun idx => by
    rw [List.map_filterMap]; congr 1; funext i; simp
  have conv2 : ∀ idx : List Nat, idx.filterMap ((l.map fun (n : Nat) => Value.int (n : Int) 0).toArray[·]?) = (idx.filterMap (l[·]?)).map fun (n : Nat) => Value.int (n : Int) 0 := fun idx => by
    rw [List.map_filterMap]; congr 1; funext i; simp
  rw [conv2] at e2
  rw [conv]
  have e3 : ((sliceRange (sliceBounds none (some (k : Int)) none l.length).1 (sliceBounds none (some (k : Int)) none l.length).2.1 (sliceBounds none (some (k : Int)) none l.length).2.2).filterMap (l[·]?)) = l.take k := by
    have h : (((sliceRange (sliceBounds none (some (k : Int)) none l.length).1 (sliceBounds none (some (k : Int)) none l.length).2.1 (sliceBounds none (some (k : Int)) none l.length).2.2).filterMap (l[·]?)).map fun (n : Nat) => Value.int (n : Int) 0) = (l.take k).map fun (n : Nat) => Value.int (n : Int) 0 := by
      simpa [List.map_take] using e2
    exact (List.map_inj_right (fun a b h => by simp at h; omega)).mp h
  rw [e3, List.map_map]; rfl

theorem ml_free {W : Wd} {β : Bk} {d : Nat} {ds bits : List Nat} {said : List Str} {m : Mails} {free : Slot} {p : Nat} (G : GMail W) (hb : bits.length ≤ 7) (hsum : (bits.take p).sum ≤ p) (hfree : free ≠ .glob) :
    X1 W d (mlV ds bits said m (sInt p) free) β (sAt (forBody (sAt (fbody 17 tops) 5)) 1) (.next (mlV ds bits said m (sInt p) (sInt (freeOf bits p)))) β := by
  refine X1.assign (r := .int ((freeOf bits p : Nat) : Int)) ?_ (by (repeat (first | exact List.mem_cons_self | refine List.mem_cons_of_mem _ ?_))) (hg := hfree)
  refine Ev.cast (Ev.bink (.int (p : Int)) (.int (((bits.take p).map fun (n : Nat) => (n : Int)).sum)) ?_ ?_ Op.sub) ?_
  · exact Ev.var (by (repeat (first | exact List.mem_cons_self | refine List.mem_cons_of_mem _ ?_)))
  · refine Ev.callk (ps := [.d (.list (((bits.take p).map fun (n : Nat) => (n : Int)).map .int))]) (by (repeat (first | exact List.mem_cons_self | refine List.mem_cons_of_mem _ ?_))) (Evs.consk (.new (((bits.take p).map fun (n : Nat) => (n : Int)).map .int)) ?_ Evs.nil) (Fn.b G.b.sum Op.sum)
    rw [← take_cast]
    refine Ev.slice (r := .dat (dInts bits)) ?_ rfl EvP.none (EvP.some ?_) EvP.none (by simp) (by simp; omega)
    · exact Ev.var (by (repeat (first | exact List.mem_cons_self | refine List.mem_cons_of_mem _ ?_)))
    · exact Ev.var (by (repeat (first | exact List.mem_cons_self | refine List.mem_cons_of_mem _ ?_)))
  · rw [sum_cast]
    unfold freeOf
    show Res.int _ = Res.int _
    congr 3
    omega
end
section
set_option maxRecDepth 20000

theorem told_len (ds bits : List Nat) (p : Nat) (h : p ≤ 7) : (toldOf ds bits p).length ≤ 20 := by
  unfold toldOf
  have l1 := laid_len (ds.getD p 0)
  have l2 := even_len (ds.getD p 0)
  have l3 := mulS_len (freeOf bits p)
  have l4 : freeOf bits p ≤ p := Nat.sub_le _ _
  split
  · omega
  · rw [Str.length_append']; omega

theorem ml_if2 {W : Wd} {β : Bk} {d : Nat} {ds bits : List Nat} {said : List Str} {m : Mails} {p : Nat} (G : GMail W) (hp : p < ds.length) (h7 : ds.length ≤ 7) (hb : bits.length = ds.length) (h1 : m.told.length ≤ 2 ^ 16) (h2 : m.typed.length ≤ 2 ^ 16) (h3 : m.even.length ≤ 2 ^ 16) :
    X1 W (d + 1) (mlV ds bits said m (sInt p) (sInt (freeOf bits p))) β (sAt (forBody (sAt (fbody 17 tops) 5)) 2) (.next (mlV ds bits said { mail := m.mail, told := if bits.getD p 0 = 1 then m.told ++ toldOf ds bits p else m.told, typed := if bits.getD p 0 = 1 then m.typed ++ laid (ds.getD p 0) else m.typed, even := if bits.getD p 0 = 1 then m.even ++ even (ds.getD p 0) else m.even } (sInt p) (sInt (freeOf bits p)))) β := by
  have l1 := laid_len (ds.getD p 0)
  have l2 := even_len (ds.getD p 0)
  have l3 := mulS_len (freeOf bits p)
  have l4 : freeOf bits p ≤ p := Nat.sub_le _ _
  have l5 := told_len ds bits p (by omega)
  refine X1.ite (b := decide (bits.getD p 0 = 1)) (β1 := β) ?_ ?_ ?_
  · refine Et.cast (Et.cmpk (.int ((bits.getD p 0 : Nat) : Int)) (.int 1) ?_ Ev.int Op.eq) ?_
    · refine Ev.subk (.dat (dInts bits)) (.int (p : Int)) ?_ ?_ (Op.item (by omega) (by omega) (at_ints bits p (by omega) _ rfl))
      · exact Ev.var (by (repeat (first | exact List.mem_cons_self | refine List.mem_cons_of_mem _ ?_)))
      · exact Ev.var (by (repeat (first | exact List.mem_cons_self | refine List.mem_cons_of_mem _ ?_)))
    · rw [Bool.eq_iff_iff, beq_iff_eq, decide_eq_true_eq]; omega
  · intro h
    have h' : bits.getD p 0 = 1 := by simpa using h
    rw [if_pos h', if_pos h', if_pos h']
    refine Ex.consk (mlV ds bits said { m with told := m.told ++ toldOf ds bits p } (sInt p) (sInt (freeOf bits p))) (X1.assign (r := .str (m.told ++ toldOf ds bits p)) ?_ (by (repeat (first | exact List.mem_cons_self | refine List.mem_cons_of_mem _ ?_)))) ?_
    · refine Ev.bink (.str m.told) (.str (toldOf ds bits p)) ?_ ?_ (Op.adds (by omega))
      · exact Ev.var (by (repeat (first | exact List.mem_cons_self | refine List.mem_cons_of_mem _ ?_)))
      · refine Ev.ife (b := decide (freeOf bits p = 0)) (β1 := β) ?_ ?_ ?_
        · refine Et.cast (Et.cmpk (.int ((freeOf bits p : Nat) : Int)) (.int 0) ?_ Ev.int Op.eq) ?_
          · exact Ev.var (by (repeat (first | exact List.mem_cons_self | refine List.mem_cons_of_mem _ ?_)))
          · rw [Bool.eq_iff_iff, beq_iff_eq, decide_eq_true_eq]; omega
        · intro hz
          have hz' : freeOf bits p = 0 := by simpa using hz
          unfold toldOf
          rw [if_pos hz']
          exact ml_laid (k := 0) G hp h7 (fn := "_law_laid") (by (repeat (first | exact List.mem_cons_self | refine List.mem_cons_of_mem _ ?_))) fun n => laid_fn G.laid
        · intro hz
          have hz' : ¬ freeOf bits p = 0 := by simpa using hz
          unfold toldOf
          rw [if_neg hz']
          refine Ev.bink (.str (Txt.mul "." ((freeOf bits p : Nat) : Int))) (.str (even (ds.getD p 0))) ?_ ?_ (Op.adds (by omega))
          · refine Ev.bink (.str ".") (.int ((freeOf bits p : Nat) : Int)) Ev.str ?_ (Op.muls 1 64 (by decide) (by omega) (by omega) (by decide) (by decide))
            exact Ev.var (by (repeat (first | exact List.mem_cons_self | refine List.mem_cons_of_mem _ ?_)))
          · exact ml_laid (k := 0) G hp h7 (fn := "_law_even") (by (repeat (first | exact List.mem_cons_self | refine List.mem_cons_of_mem _ ?_))) fun n => even_fn G.even
    refine Ex.consk (mlV ds bits said { m with told := m.told ++ toldOf ds bits p, typed := m.typed ++ laid (ds.getD p 0) } (sInt p) (sInt (freeOf bits p))) (X1.assign (r := .str (m.typed ++ laid (ds.getD p 0))) ?_ (by (repeat (first | exact List.mem_cons_self | refine List.mem_cons_of_mem _ ?_)))) ?_
    · refine Ev.bink (.str m.typed) (.str (laid (ds.getD p 0))) ?_ ?_ (Op.adds (by omega))
      · exact Ev.var (by (repeat (first | exact List.mem_cons_self | refine List.mem_cons_of_mem _ ?_)))
      · exact ml_laid (m := { m with told := m.told ++ toldOf ds bits p }) (k := 0) G hp h7 (fn := "_law_laid") (by (repeat (first | exact List.mem_cons_self | refine List.mem_cons_of_mem _ ?_))) fun n => laid_fn G.laid
    refine Ex.consk _ (X1.assign (r := .str (m.even ++ even (ds.getD p 0))) ?_ (by (repeat (first | exact List.mem_cons_self | refine List.mem_cons_of_mem _ ?_)))) Ex.nil
    · refine Ev.bink (.str m.even) (.str (even (ds.getD p 0))) ?_ ?_ (Op.adds (by omega))
      · exact Ev.var (by (repeat (first | exact List.mem_cons_self | refine List.mem_cons_of_mem _ ?_)))
      · exact ml_laid (m := { m with told := m.told ++ toldOf ds bits p, typed := m.typed ++ laid (ds.getD p 0) }) (k := 0) G hp h7 (fn := "_law_even") (by (repeat (first | exact List.mem_cons_self | refine List.mem_cons_of_mem _ ?_))) fun n => even_fn G.even
  · intro h
    have h' : ¬ bits.getD p 0 = 1 := by simpa using h
    rw [if_neg h', if_neg h', if_neg h']
    exact Ex.nil

theorem ml_loop {W : Wd} {β : Bk} {d : Nat} {ds bits : List Nat} {said : List Str} (G : GMail W) (h7 : ds.length ≤ 7) (hb : bits.length = ds.length) (hs : ∀ x ∈ said, PyData.strOk x = true) (hsum : ∀ p, (bits.take p).sum ≤ p) :
    ∀ (ps : List Nat) (is : List Int) (m : Mails) (p f : Slot), is = ps.map (fun (n : Nat) => (n : Int)) → (∀ k ∈ ps, k < ds.length) → p ≠ .glob → f ≠ .glob → ps.length ≤ 7 → (m.mail.length + 3) * 4 ^ ps.length ≤ 3 * 4 ^ 7 → m.told.length + 20 * ps.length ≤ 140 → m.typed.length + 20 * ps.length ≤ 140 → m.even.length + 20 * ps.length ≤ 140 →
    ForRun W (d + 1) (forTarget (sAt (fbody 17 tops) 5)) (forBody (sAt (fbody 17 tops) 5)) (mlV ds bits said m .unb .unb) β (is.map fun i => .d (.int i)) (.done (mlV ds bits said (ps.foldl (mailStep ds bits said) m) .unb .unb)) β := by
  intro ps
  induction ps with
  | nil => intro is m p f e _ _ _ _ _ _ _ _; subst e; exact .nil
  | cons k ps ih =>
    intro is m p f e hk hp hf hlen h0 h1 h2 h3
    subst e
    simp only [List.length_cons] at hlen h0 h1 h2 h3
    have hk0 := hk k List.mem_cons_self
    have pw : 4 ^ (ps.length + 1) = 4 * 4 ^ ps.length := by rw [Nat.pow_succ]; omega
    have hone : 1 ≤ 4 ^ ps.length := Nat.one_le_pow _ _ (by decide)
    have hm : m.mail.length ≤ 2 ^ 17 := by
      have : m.mail.length + 3 ≤ (m.mail.length + 3) * 4 ^ (ps.length + 1) := Nat.le_mul_of_pos_right _ (by omega)
      omega
    rw [List.map_cons, List.map_cons, List.foldl_cons]
    refine .cons (σ1 := mlV ds bits said m (sInt k) .unb) (.name (by (repeat (first | exact List.mem_cons_self | refine List.mem_cons_of_mem _ ?_))) (by simp) (by simp)) ?_ (ih _ (mailStep ds bits said m k) .unb .unb rfl (fun j hj => hk j (List.mem_cons_of_mem _ hj)) (by simp) (by simp) (by omega) ?_ ?_ ?_ ?_)
    · refine Ex.consk _ (ml_if1 G hk0 h7 hs hm) (Ex.consk _ (ml_free (m := { m with mail := if said.any (fun y => y == wordS [k]) then m.mail ++ laid (ds.getD k 0) else dotS (fixS m.mail) }) G (by omega) (hsum k) (by simp)) (Ex.consk _ (ml_if2 (m := { m with mail := if said.any (fun y => y == wordS [k]) then m.mail ++ laid (ds.getD k 0) else dotS (fixS m.mail) }) G hk0 h7 hb (by show m.told.length ≤ _; omega) (by show m.typed.length ≤ _; omega) (by show m.even.length ≤ _; omega)) ?_))
      exact Ex.post Ex.nil (Gh.ff (by (repeat (first | exact FF.nil | refine FF.keep ?_ | refine FF.drop ?_ ?_ | simp))))
    · have hx : (mailStep ds bits said m k).mail.length ≤ 4 * m.mail.length + 9 := by
        have l1 := laid_len (ds.getD k 0)
        have l2 := fixS_len m.mail
        have l3 := dotS_len (fixS m.mail) (by omega)
        show (if _ then _ else _ : Str).length ≤ _
        split
        · rw [Str.length_append']; omega
        · omega
      calc ((mailStep ds bits said m k).mail.length + 3) * 4 ^ ps.length ≤ (4 * m.mail.length + 12) * 4 ^ ps.length := Nat.mul_le_mul_right _ (by omega)
        _ = (m.mail.length + 3) * 4 ^ (ps.length + 1) := by rw [pw, ← Nat.mul_assoc]; congr 1; omega
        _ ≤ _ := h0
    · have l := told_len ds bits k (by omega)
      show (if _ then _ else _ : Str).length + _ ≤ _
      split
      · rw [Str.length_append']; omega
      · omega
    · have l := laid_len (ds.getD k 0)
      show (if _ then _ else _ : Str).length + _ ≤ _
      split
      · rw [Str.length_append']; omega
      · omega
    · have l := even_len (ds.getD k 0)
      show (if _ then _ else _ : Str).length + _ ≤ _
      split
      · rw [Str.length_append']; omega
      · omega
end
section
set_option maxRecDepth 20000

noncomputable abbrev mlU (ds : List Nat) (said : List Str) (bits mail told typed even place free : Slot) : Vars :=
  [⟨"drawn", .loc, .fz (.d (dInts ds))⟩, ⟨"said", .loc, .fz (.d (.list (said.map .str)))⟩, ⟨"bits", .loc, bits⟩, ⟨"mail", .loc, mail⟩, ⟨"told", .loc, told⟩, ⟨"typed", .loc, typed⟩, ⟨"even", .loc, even⟩,
   ⟨"place", .loc, place⟩, ⟨"free", .loc, free⟩, ⟨"range", .loc, .glob⟩, ⟨"_law_words", .loc, .glob⟩, ⟨"_law_laid", .loc, .glob⟩, ⟨"quotedata", .loc, .glob⟩, ⟨"sum", .loc, .glob⟩, ⟨"_law_even", .loc, .glob⟩]
noncomputable def mailsOf (ds : List Nat) (said : List Str) : Mails := [6, 5, 4, 3, 2, 1, 0].foldl (mailStep ds (ds.map (· % 2)) said) ⟨"", "", "", ""⟩
theorem bits_sum (ds : List Nat) (p : Nat) : ((ds.map (· % 2)).take p).sum ≤ p := by
  have key : ∀ l : List Nat, (l.map (· % 2)).sum ≤ l.length := fun l => by
    induction l with
    | nil => simp
    | cons x l ih => simp only [List.map_cons, List.sum_cons, List.length_cons]; omega
  rw [← List.map_take]
  exact Nat.le_trans (key _) (by simp; omega)
noncomputable abbrev sStr (x : Str) : Slot := .fz (.d (.str x))

theorem mails_fn {W : Wd} {β : Bk} {d : Nat} {ds : List Nat} {said : List Str} (g : GDef W "_law_mails" 17 ["drawn", "said"]) (G : GMail W) (h7 : ds.length = 7) (hs : ∀ x ∈ said, PyData.strOk x = true) :
    Fn W (d + 2) "_law_mails" [.d (dInts ds), .d (.list (said.map .str))] β (.dat (.tuple [.str (mailsOf ds said).mail, .str (mailsOf ds said).told, .str (mailsOf ds said).typed, .str (mailsOf ds said).even])) β := by
  refine Fn.of (σ := mlU ds said .unb .unb .unb .unb .unb .unb .unb) g rfl (by decide) ?_ ?_
  · refine .ploc ⟨by decide, by decide⟩ (by decide +kernel) List.mem_cons_self (.ploc ⟨by decide, by decide⟩ (by decide +kernel) (List.mem_cons_of_mem _ List.mem_cons_self) ?_)
    repeat refine .loc ⟨by decide, by decide⟩ (by decide +kernel) ?_
    repeat refine .glob ⟨by decide, by decide⟩ (by decide +kernel) ?_
    exact .nil
  have es : ∀ x : String, strOk (Str.ofString x) = true → True := fun _ _ => trivial
  refine Ex.consk (mlU ds said (.own ((ds.map (· % 2)).map fun (n : Nat) => PyData.int (n : Int))) .unb .unb .unb .unb .unb .unb) ?_ ?_
  · refine X1.assignCompk (.dat (dInts ds)) (pInts ds) [⟨"d", .loc, .unb⟩] _ ?_ ?_ ?_ ?_ ?_ ?_ ?_ (by (repeat (first | exact List.mem_cons_self | refine List.mem_cons_of_mem _ ?_)))
    · exact Ev.var (by (repeat (first | exact List.mem_cons_self | refine List.mem_cons_of_mem _ ?_)))
    · exact items_ints ds
    · exact .skip (by simp) (.skip (by simp) .nil)
    · exact .loc ⟨by decide, by decide⟩ (by decide) .nil
    · rw [List.map_map]
      refine RunsS.elt0 (α := Nat) _ (fun (k : Nat) => [⟨"d", .loc, .fz (.d (.int (k : Int)))⟩]) _ ds ?_ ?_
      · intro k hk
        exact .name (by (repeat (first | exact List.mem_cons_self | refine List.mem_cons_of_mem _ ?_))) (by simp) (by simp)
      · intro k hk
        refine Ev.cast (Ev.bink (.int (k : Int)) (.int 2) ?_ ?_ (Op.mod (by omega))) ?_
        · (first | exact Ev.int | exact Ev.str | exact Ev.boolc | exact Ev.var (by (repeat (first | exact List.mem_cons_self | refine List.mem_cons_of_mem _ ?_))) | (apply Ev.bin; (first | exact Ev.int | exact Ev.str | exact Ev.boolc | exact Ev.var (by (repeat (first | exact List.mem_cons_self | refine List.mem_cons_of_mem _ ?_)))); (first | exact Ev.int | exact Ev.str | exact Ev.boolc | exact Ev.var (by (repeat (first | exact List.mem_cons_self | refine List.mem_cons_of_mem _ ?_)))); (first | exact Op.add | exact Op.sub | exact Op.mod (by omega) | exact Op.fdiv (by omega) (by omega) | exact Op.lt | exact Op.gt | exact Op.le | exact Op.ge | exact Op.eq | exact Op.ne | exact Op.eqs | exact Op.nes | exact Op.and)) | (apply Ev.cmp; (first | exact Ev.int | exact Ev.str | exact Ev.boolc | exact Ev.var (by (repeat (first | exact List.mem_cons_self | refine List.mem_cons_of_mem _ ?_)))); (first | exact Ev.int | exact Ev.str | exact Ev.boolc | exact Ev.var (by (repeat (first | exact List.mem_cons_self | refine List.mem_cons_of_mem _ ?_)))); (first | exact Op.add | exact Op.sub | exact Op.mod (by omega) | exact Op.fdiv (by omega) (by omega) | exact Op.lt | exact Op.gt | exact Op.le | exact Op.ge | exact Op.eq | exact Op.ne | exact Op.eqs | exact Op.nes | exact Op.and); rfl))
        · (first | exact Ev.int | exact Ev.str | exact Ev.boolc | exact Ev.var (by (repeat (first | exact List.mem_cons_self | refine List.mem_cons_of_mem _ ?_))) | (apply Ev.bin; (first | exact Ev.int | exact Ev.str | exact Ev.boolc | exact Ev.var (by (repeat (first | exact List.mem_cons_self | refine List.mem_cons_of_mem _ ?_)))); (first | exact Ev.int | exact Ev.str | exact Ev.boolc | exact Ev.var (by (repeat (first | exact List.mem_cons_self | refine List.mem_cons_of_mem _ ?_)))); (first | exact Op.add | exact Op.sub | exact Op.mod (by omega) | exact Op.fdiv (by omega) (by omega) | exact Op.lt | exact Op.gt | exact Op.le | exact Op.ge | exact Op.eq | exact Op.ne | exact Op.eqs | exact Op.nes | exact Op.and)) | (apply Ev.cmp; (first | exact Ev.int | exact Ev.str | exact Ev.boolc | exact Ev.var (by (repeat (first | exact List.mem_cons_self | refine List.mem_cons_of_mem _ ?_)))); (first | exact Ev.int | exact Ev.str | exact Ev.boolc | exact Ev.var (by (repeat (first | exact List.mem_cons_self | refine List.mem_cons_of_mem _ ?_)))); (first | exact Op.add | exact Op.sub | exact Op.mod (by omega) | exact Op.fdiv (by omega) (by omega) | exact Op.lt | exact Op.gt | exact Op.le | exact Op.ge | exact Op.eq | exact Op.ne | exact Op.eqs | exact Op.nes | exact Op.and); rfl))
        · show Res.int _ = Res.int _
          congr 3
    · (refine Free.name ?_; intro v hv e; simp only [List.mem_cons, List.not_mem_nil, or_false] at hv; (repeat (cases hv with | inl h => (subst h; first | rfl | (exfalso; simp at e)) | inr hv => ?_)); all_goals (subst hv; first | rfl | (exfalso; simp at e)))
    · simp; omega
  refine Ex.pre (Gh.freeze (x := "bits") (l := .loc) (by (repeat (first | exact List.mem_cons_self | refine List.mem_cons_of_mem _ ?_)))) ?_
  show Ex W (d + 1) (mlU ds said (.fz (.d (dInts (ds.map (· % 2))))) .unb .unb .unb .unb .unb .unb) β _ _ _
  refine Ex.consk (mlU ds said (.fz (.d (dInts (ds.map (· % 2))))) (sStr "") .unb .unb .unb .unb .unb) (X1.assign (r := .str "") Ev.str (by (repeat (first | exact List.mem_cons_self | refine List.mem_cons_of_mem _ ?_)))) ?_
  refine Ex.consk (mlU ds said (.fz (.d (dInts (ds.map (· % 2))))) (sStr "") (sStr "") .unb .unb .unb .unb) (X1.assign (r := .str "") Ev.str (by (repeat (first | exact List.mem_cons_self | refine List.mem_cons_of_mem _ ?_)))) ?_
  refine Ex.consk (mlU ds said (.fz (.d (dInts (ds.map (· % 2))))) (sStr "") (sStr "") (sStr "") .unb .unb .unb) (X1.assign (r := .str "") Ev.str (by (repeat (first | exact List.mem_cons_self | refine List.mem_cons_of_mem _ ?_)))) ?_
  refine Ex.consk (mlU ds said (.fz (.d (dInts (ds.map (· % 2))))) (sStr "") (sStr "") (sStr "") (sStr "") .unb .unb) (X1.assign (r := .str "") Ev.str (by (repeat (first | exact List.mem_cons_self | refine List.mem_cons_of_mem _ ?_)))) ?_
  have loop := ml_loop (W := W) (β := β) (d := d) (ds := ds) (bits := ds.map (· % 2)) (said := said) G (by omega) (by simp) hs (bits_sum ds) [6, 5, 4, 3, 2, 1, 0] [6, 5, 4, 3, 2, 1, 0] ⟨"", "", "", ""⟩ .unb .unb rfl (by intro k hk; rw [h7]; simp at hk; omega) (by simp) (by simp) (by simp) (by decide) (by decide) (by decide) (by decide)
  refine Ex.consk (mlV ds (ds.map (· % 2)) said (mailsOf ds said) .unb .unb) (X1.for (r := .val (.rng 6 (-1) (-1))) (β1 := β) (β2 := β) (e := .done (mlV ds (ds.map (· % 2)) said (mailsOf ds said) .unb .unb)) ?_ (Items.rng (n := 7) (by decide) (by decide)) ?_ ?_) ?_
  · refine Ev.callk (ps := [.d (.int 6), .d (.int (-1)), .d (.int (-1))]) (by (repeat (first | exact List.mem_cons_self | refine List.mem_cons_of_mem _ ?_))) ?_ (Fn.t G.b.range (Op.range3 (by decide) (by decide)))
    exact Evs.consk (.int 6) Ev.int (Evs.consk (.int (-1)) (Ev.neg Ev.int) (Evs.consk (.int (-1)) (Ev.neg Ev.int) Evs.nil))
  · exact loop
  · exact Ex.nil
  generalize mailsOf ds said = m
  refine Ex.ret (X1.ret (r := .dat (.tuple [.str m.mail, .str m.told, .str m.typed, .str m.even])) (Ev.tuple (ps := [.d (.str m.mail), .d (.str m.told), .d (.str m.typed), .d (.str m.even)]) ?_ rfl (by simp)))
  exact Evs.consk (.str m.mail) (Ev.var (by (repeat (first | exact List.mem_cons_self | refine List.mem_cons_of_mem _ ?_)))) (Evs.consk (.str m.told) (Ev.var (by (repeat (first | exact List.mem_cons_self | refine List.mem_cons_of_mem _ ?_)))) (Evs.consk (.str m.typed) (Ev.var (by (repeat (first | exact List.mem_cons_self | refine List.mem_cons_of_mem _ ?_)))) (Evs.consk (.str m.even) (Ev.var (by (repeat (first | exact List.mem_cons_self | refine List.mem_cons_of_mem _ ?_)))) Evs.nil)))
end
section
set_option maxRecDepth 20000

noncomputable def dotsIn (row : Str) : Nat := ((List.range row.length).filter fun (k : Nat) => Txt.slice row none (some ((k : Int) + 1)) == Txt.mul "." ((k : Int) + 1)).length
noncomputable def rowsOf (mail : Str) : List Str := (Txt.split mail "\r\n").filter fun row => Txt.slice row none (some 1) == "."
noncomputable def hooksAt (dots : List Nat) (r : Nat) : List Nat := (List.range' 1 (dots.getD r 0 - 1)).map fun c => dots.getD r 0 - c + ((dots.drop (r + 1)).filter fun o => decide (c < o)).length
noncomputable def hooksOf (dots : List Nat) : List Nat := (List.range dots.length).flatMap (hooksAt dots)

theorem items_strs {W : Wd} (l : List Str) : Items W (.d (.list (l.map .str))) (l.map fun y => PV.d (.str y)) := by
  have := Items.list (W := W) (ds := l.map .str)
  rwa [List.map_map] at this
theorem rng_nat (n : Nat) : rngItems 0 1 n = (List.range n).map fun (k : Nat) => PV.d (.int (0 + (k : Int) * 1)) := rfl
theorem Items.rangeAB {W : Wd} (a b : Int) (n : Nat) (hn : n = (b - a).toNat) (h1 : -(2 ^ 30 : Int) ≤ a) (h2 : a ≤ 2 ^ 30) (h3 : -(2 ^ 30 : Int) ≤ b) (h4 : b ≤ 2 ^ 30) : Items W (.rng a b 1) ((List.range n).map fun (k : Nat) => PV.d (.int (a + (k : Int) * 1))) := by
  have hs : Builtin.Range.rangeSize a b 1 = (n : Int) := by
    unfold Builtin.Range.rangeSize
    rw [if_pos (by decide), Int.ediv_one]
    split <;> omega
  have fit : ∀ x : Int, -(2 ^ 62 : Int) ≤ x → x ≤ 2 ^ 62 → Builtin.Range.rangeFitsLong x = true := fun x hx hy => by
    unfold Builtin.Range.rangeFitsLong
    simp; omega
  refine Items.rng (W := W) ?_ hs
  unfold Builtin.Range.small
  rw [hs, fit a (by omega) (by omega), fit b (by omega) (by omega), fit n (by omega) (by omega), fit 1 (by omega) (by omega), if_pos (by decide), fit (b + (1 - 1)) (by omega) (by omega)]
  simp
theorem Items.rangeN {W : Wd} (n : Nat) (h : n ≤ 2 ^ 30) : Items W (.rng 0 (n : Int) 1) ((List.range n).map fun (k : Nat) => PV.d (.int (0 + (k : Int) * 1))) := Items.rangeAB 0 n n (by omega) (by omega) (by omega) (by omega) (by omega)
theorem dotsIn_le (row : Str) : dotsIn row ≤ row.length := by
  unfold dotsIn
  exact Nat.le_trans (List.length_filter_le _ _) (by simp)
end
section
set_option maxRecDepth 20000

theorem Items.range' {W : Wd} (n : Nat) (h : n ≤ 2 ^ 30) : Items W (.rng 0 (n : Int) 1) (pInts (List.range n)) := by
  have := Items.rangeN (W := W) n h
  have e : ((List.range n).map fun (k : Nat) => PV.d (.int (0 + (k : Int) * 1))) = pInts (List.range n) := by
    refine List.map_congr_left fun k _ => ?_
    congr 2; omega
  rwa [e] at this
theorem Items.rangeFrom {W : Wd} (a b : Nat) (h : b ≤ 2 ^ 30) (h' : a ≤ 2 ^ 30) : Items W (.rng (a : Int) (b : Int) 1) (pInts (List.range' a (b - a))) := by
  have := Items.rangeAB (W := W) a b (b - a) (by omega) (by omega) (by omega) (by omega) (by omega)
  have e : ((List.range (b - a)).map fun (k : Nat) => PV.d (.int ((a : Int) + (k : Int) * 1))) = pInts (List.range' a (b - a)) := by
    unfold pInts
    rw [List.range'_eq_map_range, List.map_map]
    refine List.map_congr_left fun k _ => ?_
    simp
  rwa [e] at this
noncomputable abbrev hkV (mail rows dots hooks r c : Slot) : Vars := [⟨"mail", .loc, mail⟩, ⟨"rows", .loc, rows⟩, ⟨"dots", .loc, dots⟩, ⟨"hooks", .loc, hooks⟩, ⟨"r", .loc, r⟩, ⟨"c", .cell, c⟩, ⟨"range", .loc, .glob⟩, ⟨"len", .loc, .glob⟩]
noncomputable abbrev sList (l : List Str) : Slot := .fz (.d (.list (l.map .str)))
noncomputable abbrev sNats (l : List Nat) : Slot := .fz (.d (dInts l))

theorem hk_rows {W : Wd} {β : Bk} {d : Nat} {mail : Str} (hm : mail.length + 2 ≤ 2 ^ 20) (h1 : (Txt.split mail "\r\n").length ≤ 1000) (h2 : ∀ x ∈ Txt.split mail "\r\n", x.length ≤ 1000) :
    X1 W d (hkV (sStr mail) .unb .unb .unb .unb .unb) β (sAt (fbody 18 tops) 0) (.next (hkV (sStr mail) (.own ((rowsOf mail).map .str)) .unb .unb .unb .unb)) β := by
  refine X1.assignCompk (.dat (.list ((Txt.split mail "\r\n").map .str))) ((Txt.split mail "\r\n").map fun y => PV.d (.str y)) [⟨"row", .loc, .unb⟩] ((rowsOf mail).map .str) ?_ ?_ ?_ ?_ ?_ ?_ ?_ (by (repeat (first | exact List.mem_cons_self | refine List.mem_cons_of_mem _ ?_)))
  · refine Ev.meth (p := .str mail) (β1 := β) (β2 := β) (ps := [.d (.str "\r\n")]) (Ev.var (by (repeat (first | exact List.mem_cons_self | refine List.mem_cons_of_mem _ ?_)))) (Evs.consk (.str "\r\n") Ev.str Evs.nil) (Mt.split (by decide) (by omega))
  · exact items_strs _
  · exact .skip (by simp) (.skip (by simp) .nil)
  · exact .loc ⟨by decide, by decide⟩ (by decide) .nil
  · refine RunsS.elt (α := Str) _ (fun row => [⟨"row", .loc, sStr row⟩]) (fun row => Txt.slice row none (some 1) == ".") PyData.str (Txt.split mail "\r\n") ?_ ?_ ?_
    · intro k hk
      exact .name (by (repeat (first | exact List.mem_cons_self | refine List.mem_cons_of_mem _ ?_))) (by simp) (by simp)
    · intro k hk
      have := h2 k hk
      refine .one (Et.cmpk (.str (Txt.slice k none (some 1))) (.str ".") ?_ Ev.str Op.eqs)
      exact Ev.sliceS (by (repeat (first | exact List.mem_cons_self | refine List.mem_cons_of_mem _ ?_))) Ev.int (by omega)
    · intro k hk _
      exact Ev.var (by (repeat (first | exact List.mem_cons_self | refine List.mem_cons_of_mem _ ?_)))
  · (refine Free.name ?_; intro v hv e; simp only [List.mem_cons, List.not_mem_nil, or_false] at hv; (repeat (cases hv with | inl h => (subst h; first | rfl | (exfalso; simp at e)) | inr hv => ?_)); all_goals (subst hv; first | rfl | (exfalso; simp at e)))
  · simp only [List.length_map]
    exact Nat.le_trans (List.length_filter_le _ _) (by omega)

theorem hk_dots {W : Wd} {β : Bk} {d : Nat} {mail : Slot} {rows : List Str} (B : Blt W) (hr : rows.length ≤ 1000) (h2 : ∀ x ∈ rows, x.length ≤ 1000) :
    X1 W d (hkV mail (sList rows) .unb .unb .unb .unb) β (sAt (fbody 18 tops) 1) (.next (hkV mail (sList rows) (.own ((rows.map dotsIn).map fun (n : Nat) => PyData.int (n : Int))) .unb .unb .unb)) β := by
  refine X1.assignCompk (.dat (.list (rows.map .str))) (rows.map fun y => PV.d (.str y)) [⟨"row", .cell, .unb⟩, ⟨"len", .loc, .glob⟩, ⟨"range", .loc, .glob⟩] _ ?_ ?_ ?_ ?_ ?_ ?_ ?_ (by (repeat (first | exact List.mem_cons_self | refine List.mem_cons_of_mem _ ?_)))
  · exact Ev.var (by (repeat (first | exact List.mem_cons_self | refine List.mem_cons_of_mem _ ?_)))
  · exact items_strs _
  · exact .skip (by simp) (.skip (by simp) (.skip (by simp) (.skip (by simp) .nil)))
  · exact .cell ⟨by decide, by decide⟩ (by decide) (.glob ⟨by decide, by decide⟩ (by decide) (.glob ⟨by decide, by decide⟩ (by decide) .nil))
  · rw [List.map_map]
    refine RunsS.elt0 (α := Str) _ (fun row => [⟨"row", .cell, sStr row⟩, ⟨"len", .loc, .glob⟩, ⟨"range", .loc, .glob⟩]) _ rows ?_ ?_
    · intro row hk
      exact .name (by (repeat (first | exact List.mem_cons_self | refine List.mem_cons_of_mem _ ?_))) (by simp) (by simp)
    · intro row hk
      have hl := h2 row hk
      refine Ev.cast (Ev.callk (ps := [.d (dInts ((List.range row.length).filter fun (k : Nat) => Txt.slice row none (some ((k : Int) + 1)) == Txt.mul "." ((k : Int) + 1)))]) (by (repeat (first | exact List.mem_cons_self | refine List.mem_cons_of_mem _ ?_))) (Evs.consk (.new _) ?_ Evs.nil) (Fn.b B.len (Op.lenl ?_))) ?_
      · refine Ev.compk (.val (.rng 0 (row.length : Int) 1)) (pInts (List.range row.length)) [⟨"k", .loc, .unb⟩, ⟨"row", .free, sStr row⟩] _ ?_ ?_ ?_ ?_ ?_ ?_ ?_
        · refine Ev.callk (ps := [.d (.int (row.length : Int))]) (by (repeat (first | exact List.mem_cons_self | refine List.mem_cons_of_mem _ ?_))) (Evs.consk (.int (row.length : Int)) ?_ Evs.nil) (Fn.t B.range Op.range1)
          refine Ev.callk (ps := [.d (.str row)]) (by (repeat (first | exact List.mem_cons_self | refine List.mem_cons_of_mem _ ?_))) (Evs.consk (.str row) (Ev.var (by (repeat (first | exact List.mem_cons_self | refine List.mem_cons_of_mem _ ?_)))) Evs.nil) (Fn.b B.len (Op.lens (by omega)))
        · exact Items.range' _ (by omega)
        · exact .skip (by simp) (.skip (by simp) (.free (x := "row") (by (repeat (first | exact List.mem_cons_self | refine List.mem_cons_of_mem _ ?_))) (by simp) .nil))
        · exact .loc ⟨by decide, by decide⟩ (by decide) (.free (by (repeat (first | exact List.mem_cons_self | refine List.mem_cons_of_mem _ ?_))) (by simp) (by decide) .nil)
        · refine RunsS.elt (α := Nat) _ (fun (k : Nat) => [⟨"k", .loc, .fz (.d (.int (k : Int)))⟩, ⟨"row", .free, sStr row⟩]) (fun (k : Nat) => Txt.slice row none (some ((k : Int) + 1)) == Txt.mul "." ((k : Int) + 1)) _ (List.range row.length) ?_ ?_ ?_
          · intro k hk
            exact .name (by (repeat (first | exact List.mem_cons_self | refine List.mem_cons_of_mem _ ?_))) (by simp) (by simp)
          · intro k hk
            have hk' := List.mem_range.mp hk
            refine .one (Et.cmpk (.str (Txt.slice row none (some ((k : Int) + 1)))) (.str (Txt.mul "." ((k : Int) + 1))) ?_ ?_ Op.eqs)
            · refine Ev.sliceS (n := (k : Int) + 1) (by (repeat (first | exact List.mem_cons_self | refine List.mem_cons_of_mem _ ?_))) ?_ (by omega)
              (first | exact Ev.int | exact Ev.str | exact Ev.boolc | exact Ev.var (by (repeat (first | exact List.mem_cons_self | refine List.mem_cons_of_mem _ ?_))) | (apply Ev.bin; (first | exact Ev.int | exact Ev.str | exact Ev.boolc | exact Ev.var (by (repeat (first | exact List.mem_cons_self | refine List.mem_cons_of_mem _ ?_)))); (first | exact Ev.int | exact Ev.str | exact Ev.boolc | exact Ev.var (by (repeat (first | exact List.mem_cons_self | refine List.mem_cons_of_mem _ ?_)))); (first | exact Op.add | exact Op.sub | exact Op.mod (by omega) | exact Op.fdiv (by omega) (by omega) | exact Op.lt | exact Op.gt | exact Op.le | exact Op.ge | exact Op.eq | exact Op.ne | exact Op.eqs | exact Op.nes | exact Op.and)) | (apply Ev.cmp; (first | exact Ev.int | exact Ev.str | exact Ev.boolc | exact Ev.var (by (repeat (first | exact List.mem_cons_self | refine List.mem_cons_of_mem _ ?_)))); (first | exact Ev.int | exact Ev.str | exact Ev.boolc | exact Ev.var (by (repeat (first | exact List.mem_cons_self | refine List.mem_cons_of_mem _ ?_)))); (first | exact Op.add | exact Op.sub | exact Op.mod (by omega) | exact Op.fdiv (by omega) (by omega) | exact Op.lt | exact Op.gt | exact Op.le | exact Op.ge | exact Op.eq | exact Op.ne | exact Op.eqs | exact Op.nes | exact Op.and); rfl))
            · refine Ev.bink (.str ".") (.int ((k : Int) + 1)) Ev.str ?_ (Op.muls 1 2000 (by decide) (by omega) (by omega) (by decide) (by decide))
              (first | exact Ev.int | exact Ev.str | exact Ev.boolc | exact Ev.var (by (repeat (first | exact List.mem_cons_self | refine List.mem_cons_of_mem _ ?_))) | (apply Ev.bin; (first | exact Ev.int | exact Ev.str | exact Ev.boolc | exact Ev.var (by (repeat (first | exact List.mem_cons_self | refine List.mem_cons_of_mem _ ?_)))); (first | exact Ev.int | exact Ev.str | exact Ev.boolc | exact Ev.var (by (repeat (first | exact List.mem_cons_self | refine List.mem_cons_of_mem _ ?_)))); (first | exact Op.add | exact Op.sub | exact Op.mod (by omega) | exact Op.fdiv (by omega) (by omega) | exact Op.lt | exact Op.gt | exact Op.le | exact Op.ge | exact Op.eq | exact Op.ne | exact Op.eqs | exact Op.nes | exact Op.and)) | (apply Ev.cmp; (first | exact Ev.int | exact Ev.str | exact Ev.boolc | exact Ev.var (by (repeat (first | exact List.mem_cons_self | refine List.mem_cons_of_mem _ ?_)))); (first | exact Ev.int | exact Ev.str | exact Ev.boolc | exact Ev.var (by (repeat (first | exact List.mem_cons_self | refine List.mem_cons_of_mem _ ?_)))); (first | exact Op.add | exact Op.sub | exact Op.mod (by omega) | exact Op.fdiv (by omega) (by omega) | exact Op.lt | exact Op.gt | exact Op.le | exact Op.ge | exact Op.eq | exact Op.ne | exact Op.eqs | exact Op.nes | exact Op.and); rfl))
          · intro k hk _
            exact Ev.var (by (repeat (first | exact List.mem_cons_self | refine List.mem_cons_of_mem _ ?_)))
        · (refine Free.name ?_; intro v hv e; simp only [List.mem_cons, List.not_mem_nil, or_false] at hv; (repeat (cases hv with | inl h => (subst h; first | rfl | (exfalso; simp at e)) | inr hv => ?_)); all_goals (subst hv; first | rfl | (exfalso; simp at e)))
        · simp only [List.length_map]
          exact Nat.le_trans (List.length_filter_le _ _) (by simp; omega)
      · simp only [List.length_map]
        exact Nat.lt_of_le_of_lt (List.length_filter_le _ _) (by simp; omega)
      · show Res.int _ = Res.int _
        rw [List.length_map]; rfl
  · (refine Free.name ?_; intro v hv e; simp only [List.mem_cons, List.not_mem_nil, or_false] at hv; (repeat (cases hv with | inl h => (subst h; first | rfl | (exfalso; simp at e)) | inr hv => ?_)); all_goals (subst hv; first | rfl | (exfalso; simp at e)))
  · simp; omega
end
section
set_option maxRecDepth 20000

noncomputable abbrev oNats (l : List Nat) : Slot := .own (l.map fun (n : Nat) => PyData.int (n : Int))
theorem nat_snoc (l : List Nat) (x : Nat) : (l.map fun (n : Nat) => PyData.int (n : Int)) ++ [.int (x : Int)] = (l ++ [x]).map fun (n : Nat) => PyData.int (n : Int) := by simp
theorem oNats_snoc (l : List Nat) (x : Nat) : oNats (l ++ [x]) = .own ((l.map fun (n : Nat) => PyData.int (n : Int)) ++ [.int (x : Int)]) := by
  show Slot.own _ = _
  rw [nat_snoc]
theorem drop_cast (l : List Nat) (k : Nat) : (pickD (l.map fun (n : Nat) => PyData.int (n : Int)) (some (k : Int)) none none) = (l.drop k).map fun (n : Nat) => PyData.int (n : Int) := by
  unfold pickD
  have e := slicePick_from' (((l.map fun (n : Nat) => Value.int (n : Int) 0)).toArray) k
  unfold slicePick at e
  have e2 := congrArg Array.toList e
  simp only [List.size_toArray, List.length_map] at e2 ⊢
  have conv : ∀ idx : List Nat, idx.filterMap ((l.map fun (n : Nat) => PyData.int (n : Int))[·]?) = (idx.filterMap (l[·]?)).map fun (n : Nat) => PyData.int (n : Int) := fun idx => by
    rw [List.map_filterMap]; congr 1; funext i; simp
  have conv2 : ∀ idx : List Nat, idx.filterMap ((l.map fun (n : Nat) => Value.int (n : Int) 0).toArray[·]?) = (idx.filterMap (l[·]?)).map fun (n : Nat) => Value.int (n : Int) 0 := fun idx => by
    rw [List.map_filterMap]; congr 1; funext i; simp
  rw [conv2] at e2
  rw [conv]
  have e3 : ((sliceRange (sliceBounds (some (k : Int)) none none l.length).1 (sliceBounds (some (k : Int)) none none l.length).2.1 (sliceBounds (some (k : Int)) none none l.length).2.2).filterMap (l[·]?)) = l.drop k := by
    have h : (((sliceRange (sliceBounds (some (k : Int)) none none l.length).1 (sliceBounds (some (k : Int)) none none l.length).2.1 (sliceBounds (some (k : Int)) none none l.length).2.2).filterMap (l[·]?)).map fun (n : Nat) => Value.int (n : Int) 0) = (l.drop k).map fun (n : Nat) => Value.int (n : Int) 0 := by
      simpa [List.map_drop] using e2
    exact (List.map_inj_right (fun a b h => by simp at h; omega)).mp h
  rw [e3]

theorem hk_item {W : Wd} {β : Bk} {d : Nat} {mail rows hooks : Slot} {dots : List Nat} {r c : Nat} (B : Blt W) (hd : dots.length ≤ 1000) (hr : r < dots.length) (hD : ∀ x ∈ dots, x ≤ 1000) (hc : c < dots.getD r 0) :
    Ev W d (hkV mail rows (sNats dots) hooks (sInt r) (sInt c)) β (callArg (sAt (forBody (sAt (forBody (sAt (fbody 18 tops) 3)) 0)) 0)) (.int ((dots.getD r 0 - c + ((dots.drop (r + 1)).filter fun o => decide (c < o)).length : Nat) : Int)) β := by
  have hg : dots.getD r 0 ≤ 1000 := by
    rw [List.getD_eq_getElem?_getD, List.getElem?_eq_getElem hr]; exact hD _ (List.getElem_mem hr)
  refine Ev.cast (Ev.bink (.int ((dots.getD r 0 : Nat) - (c : Nat) : Int)) (.int ((((dots.drop (r + 1)).filter fun o => decide (c < o)).map fun (n : Nat) => PyData.int (n : Int)).length : Int)) ?_ ?_ Op.add) ?_
  · refine Ev.bink (.int ((dots.getD r 0 : Nat) : Int)) (.int (c : Int)) ?_ (Ev.var (by (repeat (first | exact List.mem_cons_self | refine List.mem_cons_of_mem _ ?_)))) Op.sub
    refine Ev.subk (.dat (dInts dots)) (.int (r : Int)) (Ev.var (by (repeat (first | exact List.mem_cons_self | refine List.mem_cons_of_mem _ ?_)))) (Ev.var (by (repeat (first | exact List.mem_cons_self | refine List.mem_cons_of_mem _ ?_)))) (Op.item (by omega) (by omega) (at_ints dots r hr _ rfl))
  · refine Ev.callk (ps := [.d (dInts ((dots.drop (r + 1)).filter fun o => decide (c < o)))]) (by (repeat (first | exact List.mem_cons_self | refine List.mem_cons_of_mem _ ?_))) (Evs.consk (.new _) ?_ Evs.nil) (Fn.b B.len (Op.lenl ?_))
    · refine Ev.compk (.new ((dots.drop (r + 1)).map fun (n : Nat) => PyData.int (n : Int))) (pInts (dots.drop (r + 1))) [⟨"other", .loc, .unb⟩, ⟨"c", .free, sInt c⟩] _ ?_ ?_ ?_ ?_ ?_ ?_ ?_
      · rw [← drop_cast]
        refine Ev.slice (r := .dat (dInts dots)) ?_ rfl (EvP.some (i := ((r + 1 : Nat) : Int)) ?_) EvP.none EvP.none (by simp) (by simp; omega)
        · exact Ev.var (by (repeat (first | exact List.mem_cons_self | refine List.mem_cons_of_mem _ ?_)))
        · refine Ev.cast (r := .int ((r : Int) + 1)) ?_ (by simp)
          (first | exact Ev.int | exact Ev.str | exact Ev.boolc | exact Ev.var (by (repeat (first | exact List.mem_cons_self | refine List.mem_cons_of_mem _ ?_))) | (apply Ev.bin; (first | exact Ev.int | exact Ev.str | exact Ev.boolc | exact Ev.var (by (repeat (first | exact List.mem_cons_self | refine List.mem_cons_of_mem _ ?_)))); (first | exact Ev.int | exact Ev.str | exact Ev.boolc | exact Ev.var (by (repeat (first | exact List.mem_cons_self | refine List.mem_cons_of_mem _ ?_)))); (first | exact Op.add | exact Op.sub | exact Op.mod (by omega) | exact Op.fdiv (by omega) (by omega) | exact Op.lt | exact Op.gt | exact Op.le | exact Op.ge | exact Op.eq | exact Op.ne | exact Op.eqs | exact Op.nes | exact Op.and)) | (apply Ev.cmp; (first | exact Ev.int | exact Ev.str | exact Ev.boolc | exact Ev.var (by (repeat (first | exact List.mem_cons_self | refine List.mem_cons_of_mem _ ?_)))); (first | exact Ev.int | exact Ev.str | exact Ev.boolc | exact Ev.var (by (repeat (first | exact List.mem_cons_self | refine List.mem_cons_of_mem _ ?_)))); (first | exact Op.add | exact Op.sub | exact Op.mod (by omega) | exact Op.fdiv (by omega) (by omega) | exact Op.lt | exact Op.gt | exact Op.le | exact Op.ge | exact Op.eq | exact Op.ne | exact Op.eqs | exact Op.nes | exact Op.and); rfl))
      · exact items_ints _
      · exact .skip (by simp) (.skip (by simp) (.free (x := "c") (by (repeat (first | exact List.mem_cons_self | refine List.mem_cons_of_mem _ ?_))) (by simp) .nil))
      · exact .loc ⟨by decide, by decide⟩ (by decide) (.free (by (repeat (first | exact List.mem_cons_self | refine List.mem_cons_of_mem _ ?_))) (by simp) (by decide) .nil)
      · refine RunsS.elt (α := Nat) _ (fun (k : Nat) => [⟨"other", .loc, .fz (.d (.int (k : Int)))⟩, ⟨"c", .free, sInt c⟩]) (fun o => decide (c < o)) _ (dots.drop (r + 1)) ?_ ?_ ?_
        · intro k hk
          exact .name (by (repeat (first | exact List.mem_cons_self | refine List.mem_cons_of_mem _ ?_))) (by simp) (by simp)
        · intro k hk
          refine .one (Et.cast (Et.cmpk (.int (k : Int)) (.int (c : Int)) (Ev.var (by (repeat (first | exact List.mem_cons_self | refine List.mem_cons_of_mem _ ?_)))) (Ev.var (by (repeat (first | exact List.mem_cons_self | refine List.mem_cons_of_mem _ ?_)))) Op.gt) ?_)
          exact decide_eq_decide.mpr (by omega)
        · intro k hk _
          exact Ev.var (by (repeat (first | exact List.mem_cons_self | refine List.mem_cons_of_mem _ ?_)))
      · (refine Free.name ?_; intro v hv e; simp only [List.mem_cons, List.not_mem_nil, or_false] at hv; (repeat (cases hv with | inl h => (subst h; first | rfl | (exfalso; simp at e)) | inr hv => ?_)); all_goals (subst hv; first | rfl | (exfalso; simp at e)))
      · simp only [List.length_map]
        exact Nat.le_trans (List.length_filter_le _ _) (by simp; omega)
    · simp only [List.length_map]
      exact Nat.lt_of_le_of_lt (List.length_filter_le _ _) (by simp; omega)
  · show Res.int _ = Res.int _
    rw [List.length_map]
    congr 3
    omega

theorem hk_inner {W : Wd} {β : Bk} {d : Nat} {mail rows : Slot} {dots : List Nat} {r : Nat} (B : Blt W) (hd : dots.length ≤ 1000) (hr : r < dots.length) (hD : ∀ x ∈ dots, x ≤ 1000) :
    ∀ (cs acc : List Nat), (∀ c ∈ cs, c < dots.getD r 0) → acc.length + cs.length ≤ 2 ^ 20 →
    ForRun W d (forTarget (sAt (forBody (sAt (fbody 18 tops) 3)) 0)) (forBody (sAt (forBody (sAt (fbody 18 tops) 3)) 0)) (hkV mail rows (sNats dots) (oNats acc) (sInt r) .unb) β (pInts cs) (.done (hkV mail rows (sNats dots) (oNats (acc ++ cs.map fun c => dots.getD r 0 - c + ((dots.drop (r + 1)).filter fun o => decide (c < o)).length)) (sInt r) .unb)) β := by
  intro cs
  induction cs with
  | nil => intro acc _ _; rw [List.map_nil, List.append_nil]; exact .nil
  | cons c cs ih =>
    intro acc hc hlen
    simp only [List.length_cons] at hlen
    refine .cons (σ1 := hkV mail rows (sNats dots) (oNats acc) (sInt r) (sInt c)) (σ2 := hkV mail rows (sNats dots) (oNats (acc ++ [dots.getD r 0 - c + ((dots.drop (r + 1)).filter fun o => decide (c < o)).length])) (sInt r) .unb) (β1 := β) (.name (by (repeat (first | exact List.mem_cons_self | refine List.mem_cons_of_mem _ ?_))) (by simp) (by simp)) (Ex.consk (hkV mail rows (sNats dots) (oNats (acc ++ [dots.getD r 0 - c + ((dots.drop (r + 1)).filter fun o => decide (c < o)).length])) (sInt r) (sInt c)) ?_ ?_) ?_
    · rw [oNats_snoc]
      exact X1.append (by (repeat (first | exact List.mem_cons_self | refine List.mem_cons_of_mem _ ?_))) (hk_item B hd hr hD (hc c List.mem_cons_self)) (by simp; omega)
    · exact Ex.post Ex.nil (Gh.ff (.keep (.keep (.keep (.keep (.keep (.drop (.keep (.keep .nil)) (by simp))))))))
    · have := ih (acc ++ [dots.getD r 0 - c + ((dots.drop (r + 1)).filter fun o => decide (c < o)).length]) (fun x hx => hc x (List.mem_cons_of_mem _ hx)) (by rw [List.length_append, List.length_singleton]; omega)
      rw [List.append_assoc, List.singleton_append] at this
      exact this

theorem hk_outer {W : Wd} {β : Bk} {d : Nat} {mail rows : Slot} {dots : List Nat} (B : Blt W) (hd : dots.length ≤ 1000) (hD : ∀ x ∈ dots, x ≤ 1000) :
    ∀ (rs acc : List Nat), (∀ r ∈ rs, r < dots.length) → acc.length + 1000 * rs.length ≤ 2 ^ 20 →
    ForRun W d (forTarget (sAt (fbody 18 tops) 3)) (forBody (sAt (fbody 18 tops) 3)) (hkV mail rows (sNats dots) (oNats acc) .unb .unb) β (pInts rs) (.done (hkV mail rows (sNats dots) (oNats (acc ++ rs.flatMap (hooksAt dots))) .unb .unb)) β := by
  intro rs
  induction rs with
  | nil => intro acc _ _; rw [List.flatMap_nil, List.append_nil]; exact .nil
  | cons r rs ih =>
    intro acc hr hlen
    simp only [List.length_cons] at hlen
    have hr0 := hr r List.mem_cons_self
    have hg : dots.getD r 0 ≤ 1000 := by
      rw [List.getD_eq_getElem?_getD, List.getElem?_eq_getElem hr0]; exact hD _ (List.getElem_mem hr0)
    have hl : (hooksAt dots r).length ≤ 1000 := by
      unfold hooksAt; simp only [List.length_map, List.length_range']; omega
    refine .cons (σ1 := hkV mail rows (sNats dots) (oNats acc) (sInt r) .unb) (σ2 := hkV mail rows (sNats dots) (oNats (acc ++ hooksAt dots r)) .unb .unb) (β1 := β) (.name (by (repeat (first | exact List.mem_cons_self | refine List.mem_cons_of_mem _ ?_))) (by simp) (by simp)) (Ex.consk (hkV mail rows (sNats dots) (oNats (acc ++ hooksAt dots r)) (sInt r) .unb) ?_ ?_) ?_
    · refine X1.for (r := .val (.rng 1 ((dots.getD r 0 : Nat) : Int) 1)) (β1 := β) (β2 := β) (e := .done (hkV mail rows (sNats dots) (oNats (acc ++ hooksAt dots r)) (sInt r) .unb)) (items := pInts (List.range' 1 (dots.getD r 0 - 1))) ?_ ?_ ?_ ?_
      · refine Ev.callk (ps := [.d (.int 1), .d (.int ((dots.getD r 0 : Nat) : Int))]) (by (repeat (first | exact List.mem_cons_self | refine List.mem_cons_of_mem _ ?_))) (Evs.consk (.int 1) Ev.int (Evs.consk (.int ((dots.getD r 0 : Nat) : Int)) ?_ Evs.nil)) (Fn.t B.range Op.range2)
        refine Ev.subk (.dat (dInts dots)) (.int (r : Int)) (Ev.var (by (repeat (first | exact List.mem_cons_self | refine List.mem_cons_of_mem _ ?_)))) (Ev.var (by (repeat (first | exact List.mem_cons_self | refine List.mem_cons_of_mem _ ?_)))) (Op.item (by omega) (by omega) (at_ints dots r hr0 _ rfl))
      · exact Items.rangeFrom 1 _ (by omega) (by omega)
      · exact hk_inner B hd hr0 hD _ acc (fun c hc => by have := List.mem_range'.mp hc; omega) (by rw [List.length_range']; omega)
      · exact Ex.nil
    · exact Ex.post Ex.nil (Gh.ff (.keep (.keep (.keep (.keep (.drop (.keep (.keep (.keep .nil))) (by simp)))))))
    · rw [List.flatMap_cons, ← List.append_assoc]
      exact ih _ (fun x hx => hr x (List.mem_cons_of_mem _ hx)) (by simp only [List.length_append]; omega)

theorem hooks_fn {W : Wd} {β : Bk} {d : Nat} {mail : Str} (g : GDef W "_law_hooks" 18 ["mail"]) (B : Blt W) (hm : mail.length + 2 ≤ 2 ^ 20) (h1 : (Txt.split mail "\r\n").length ≤ 1000) (h2 : ∀ x ∈ Txt.split mail "\r\n", x.length ≤ 1000) :
    Fn W (d + 1) "_law_hooks" [.d (.str mail)] β (.dat (dInts (hooksOf ((rowsOf mail).map dotsIn)))) β := by
  refine Fn.of (σ := hkV (sStr mail) .unb .unb .unb .unb .unb) g rfl (by decide) ?_ ?_
  · refine .ploc ⟨by decide, by decide⟩ (by decide +kernel) List.mem_cons_self ?_
    refine .loc ⟨by decide, by decide⟩ (by decide +kernel) (.loc ⟨by decide, by decide⟩ (by decide +kernel) (.loc ⟨by decide, by decide⟩ (by decide +kernel) (.loc ⟨by decide, by decide⟩ (by decide +kernel) (.cell ⟨by decide, by decide⟩ (by decide +kernel) ?_))))
    exact .glob ⟨by decide, by decide⟩ (by decide +kernel) (.glob ⟨by decide, by decide⟩ (by decide +kernel) .nil)
  have r1 : (rowsOf mail).length ≤ 1000 := Nat.le_trans (List.length_filter_le _ _) h1
  have r2 : ∀ x ∈ rowsOf mail, x.length ≤ 1000 := fun x hx => h2 x (List.mem_filter.mp hx).1
  have hdots : ∀ x ∈ (rowsOf mail).map dotsIn, x ≤ 1000 := fun x hx => by
    obtain ⟨y, hy, rfl⟩ := List.mem_map.mp hx
    exact Nat.le_trans (dotsIn_le y) (r2 y hy)
  refine Ex.consk _ (hk_rows hm h1 h2) (Ex.pre (Gh.freeze (x := "rows") (l := .loc) (by (repeat (first | exact List.mem_cons_self | refine List.mem_cons_of_mem _ ?_)))) ?_)
  show Ex W d (hkV (sStr mail) (sList (rowsOf mail)) .unb .unb .unb .unb) β _ _ _
  refine Ex.consk _ (hk_dots B r1 r2) (Ex.pre (Gh.freeze (x := "dots") (l := .loc) (by (repeat (first | exact List.mem_cons_self | refine List.mem_cons_of_mem _ ?_)))) ?_)
  show Ex W d (hkV (sStr mail) (sList (rowsOf mail)) (sNats ((rowsOf mail).map dotsIn)) .unb .unb .unb) β _ _ _
  have r3 : ((rowsOf mail).map dotsIn).length ≤ 1000 := by rw [List.length_map]; exact r1
  generalize (rowsOf mail).map dotsIn = dots at hdots r3 ⊢
  generalize rowsOf mail = rows at r1 r2 ⊢
  refine Ex.consk (hkV (sStr mail) (sList rows) (sNats dots) (oNats []) .unb .unb) (X1.assignNew (Ev.listd Evs.nil rfl (by decide)) (by (repeat (first | exact List.mem_cons_self | refine List.mem_cons_of_mem _ ?_)))) ?_
  have loop := hk_outer (W := W) (β := β) (d := d) (mail := sStr mail) (rows := sList rows) B r3 hdots (List.range dots.length) [] (fun r hr => List.mem_range.mp hr) (by simp; omega)
  rw [List.nil_append] at loop
  refine Ex.consk (hkV (sStr mail) (sList rows) (sNats dots) (oNats (hooksOf dots)) .unb .unb) (X1.for (r := .val (.rng 0 (dots.length : Int) 1)) (β1 := β) (β2 := β) (e := .done (hkV (sStr mail) (sList rows) (sNats dots) (oNats (hooksOf dots)) .unb .unb)) ?_ (Items.range' _ (by omega)) loop Ex.nil) ?_
  · refine Ev.cast (Ev.callk (ps := [.d (.int (dots.length : Int))]) (r := .val (.rng 0 (dots.length : Int) 1)) (by (repeat (first | exact List.mem_cons_self | refine List.mem_cons_of_mem _ ?_))) (Evs.consk (.int (dots.length : Int)) ?_ Evs.nil) (Fn.t B.range Op.range1)) rfl
    refine Ev.cast (Ev.callk (ps := [.d (dInts dots)]) (by (repeat (first | exact List.mem_cons_self | refine List.mem_cons_of_mem _ ?_))) (Evs.consk (.dat (dInts dots)) (Ev.var (by (repeat (first | exact List.mem_cons_self | refine List.mem_cons_of_mem _ ?_)))) Evs.nil) (Fn.b B.len (Op.lenl (by simp; omega)))) ?_
    show Res.int _ = Res.int _
    rw [List.length_map]
  refine Ex.pre (Gh.freeze (x := "hooks") (l := .loc) (by (repeat (first | exact List.mem_cons_self | refine List.mem_cons_of_mem _ ?_)))) ?_
  show Ex W d (hkV (sStr mail) (sList rows) (sNats dots) (sNats (hooksOf dots)) .unb .unb) β _ _ _
  exact Ex.ret (X1.ret (r := .dat (dInts (hooksOf dots))) (Ev.var (by (repeat (first | exact List.mem_cons_self | refine List.mem_cons_of_mem _ ?_)))))
end
section
set_option maxRecDepth 20000

/-- what the book holds -/
theorem book_at {W : Wd} {d : Nat} {A : Around} {M : List Addr} {ba : Option Addr} {β : Bk} {s : Shared} {v : Value} (c : Co W d A M ba β s) (p : PR (frz s.heap M) ba v .book) :
    ∃ a g, v = .ref a ∧ ba = some a ∧ s.heap.DictOf (intKind W.prog W.w) a g ∧ (∀ k, (match β k with | some i => ∃ t, valueAt g k = some (.int i t) | none => valueAt g k = none)) ∧ (a == sysModules) = false := by
  cases p with
  | @book a e =>
    have b := c.book
    subst e
    obtain ⟨_, g, h1, h2, h3⟩ := b
    exact ⟨a, g, rfl, rfl, h1, h2, h3⟩

theorem Op.notInBook {W : Wd} {d : Nat} {β : Bk} {n : Int} : Op W d (cop .NotIn) [.d (.int n), .book] β (.bool (β n).isNone) β := fun A M ba s vs E Q c p q => by
  obtain ⟨v, u, rfl, pa, pb⟩ := p.two
  obtain ⟨t, rfl⟩ := pa.int
  obtain ⟨a, g, rfl, e, hd, hg, hs⟩ := book_at c pb
  refine wpAny_notIn_of (intKind_is _ _ n t) hs hd.mapOf ?_
  have : (!(valueAt g n).isSome) = (β n).isNone := by
    have := hg n
    cases hb : β n with
    | none => rw [hb] at this; rw [this]; rfl
    | some i => rw [hb] at this; obtain ⟨t, e⟩ := this; rw [e]; rfl
  rw [this]
  exact q.tok c rfl (.d (.bool _)) _
theorem Op.itemBook {W : Wd} {d : Nat} {β : Bk} {n i : Int} {value slice : Expr} (hb : β n = some i) (hs : PlainSub slice := by intro _ _; rfl) : Op W d (stail value slice) [.book, .d (.int n)] β (.int i) β := fun A M ba s vs E Q c p q => by
  obtain ⟨v, u, rfl, pa, pb⟩ := p.two
  obtain ⟨t, rfl⟩ := pb.int
  obtain ⟨a, g, rfl, e, hd, hg, _⟩ := book_at c pa
  have := hg n
  rw [hb] at this
  obtain ⟨ti, hv⟩ := this
  exact tail_any hd.mapOf.typeIs slot_dict_getitem.lookup (wpAny_getItem_of (intKind_is _ _ n t) hd.mapOf hv (q.tok c rfl (.d (.int _ _)) _)) (hs _ _)
noncomputable def Bk.put (β : Bk) (n i : Int) : Bk := fun k => if k = n then some i else β k

theorem nodup_sub_len : ∀ (l L : List Int), l.Nodup → (∀ x ∈ l, x ∈ L) → l.length ≤ L.length
  | [], L, _, _ => Nat.zero_le _
  | x :: l, L, hn, hs => by
    have hn' := List.nodup_cons.mp hn
    have hx := hs x List.mem_cons_self
    have := nodup_sub_len l (L.erase x) hn'.2 fun y hy => by
      have hy' := hs y (List.mem_cons_of_mem _ hy)
      exact (List.mem_erase_of_ne (fun e => hn'.1 (by rw [← e]; exact hy))).mpr hy'
    rw [List.length_erase_of_mem hx] at this
    have hp := List.length_pos_of_mem hx
    rw [List.length_cons]; omega
theorem valueAt_app {g : List (Int × Value)} {n k : Int} {v : Value} (h : valueAt g n = none) : valueAt (g ++ [(n, v)]) k = if k = n then some v else valueAt g k := by
  unfold valueAt at *
  rw [List.find?_append]
  by_cases e : k = n
  · subst e
    rw [if_pos rfl]
    have : (List.find? (fun kv : Int × Value => decide (kv.1 = k)) g) = none := by simpa using h
    rw [this]; simp
  · rw [if_neg e]
    have : (List.find? (fun kv : Int × Value => decide (kv.1 = k)) [(n, v)]) = none := by simp [Ne.symm e]
    rw [this]; simp
/-- a store into the book -/
theorem act_bookSet {W : Wd} {d : Nat} {A : Around} {env : Env} {σ : Vars} {O M ba β g N} {s : Shared} (t : Act W d A env σ O M ba β s g N) {v : Value} (p : PR (frz s.heap M) ba v .book) {n i : Int} {tn ti : Tok} (hn : β n = none) (hsz : ∃ L : List Int, L.length ≤ 2 ^ 20 ∧ ∀ k, β k ≠ none → k ∈ L)
    {E : Value → Shared → Prop} {Q : Unit → Shared → Prop} (q : ∀ h' tk, Act W d A env σ O M ba (β.put n i) { s with heap := h', toks := tk } g N → Q () { s with heap := h', toks := tk }) : wpAny W.md A (setItem v (.int n tn) (.int i ti)) Q E s := by
  obtain ⟨a, kvs, rfl, e, hd, hg, hs⟩ := book_at t.st.co p
  obtain ⟨L, hL, hin⟩ := hsz
  have hnn : valueAt kvs n = none := by have := hg n; rw [hn] at this; exact this
  have hnd : (kvs.map (·.1)).Nodup := by obtain ⟨o, es, ep, _, _, _, _, _, h⟩ := hd; exact h
  have hlen : kvs.length ≤ 2 ^ 20 := by
    have := nodup_sub_len (kvs.map (·.1)) L hnd fun x hx => by
      obtain ⟨⟨k, v⟩, hkv, rfl⟩ := List.mem_map.mp hx
      obtain ⟨j, hj, ej⟩ := List.getElem_of_mem hkv
      have hv := valueAt_of_get hnd (i := j) (k := k) (v := v) (by rw [List.getElem?_eq_getElem hj, ej])
      refine hin k fun hb => ?_
      have := hg k
      rw [hb] at this
      rw [this] at hv; cases hv
    rw [List.length_map] at this; omega
  refine wpAny_setItem_pairs (intKind_is _ _ n tn) hd (fun h' hd' sb => ?_) (by rw [sizeLine_eq]; omega)
  rw [stored_absent hnn] at hd'
  have k : ∀ b o, b ≠ a → s.heap.get? b = some o → h'.get? b = some o := fun b o nb eb => (sb.2 b nb).trans eb
  have haM : a ∈ M := by have := t.st.co.book; subst e; exact this.1
  have c' : Co W d A M ba (β.put n i) { s with heap := h', toks := s.toks + 1 } := by
    refine ⟨t.st.co.hand, t.st.co.room, t.st.co.units, fun b o eb => ⟨k b o (fun z => (t.st.co.base b o eb).2 (z ▸ haM)) (t.st.co.base b o eb).1, (t.st.co.base b o eb).2⟩, fun m hm => ?_, ?_⟩
    · by_cases z : m = a
      · subst z; obtain ⟨o, _, _, ho, _⟩ := hd'; exact ⟨o, ho⟩
      · obtain ⟨o, eo⟩ := t.st.co.live m hm; exact ⟨o, k m o z eo⟩
    · subst e
      refine ⟨haM, _, hd', fun x => ?_, hs⟩
      rw [valueAt_app hnn]
      unfold Bk.put
      by_cases z : x = n
      · rw [if_pos z, if_pos z]; exact ⟨_, rfl⟩
      · rw [if_neg z, if_neg z]; exact hg x
  exact q h' _ (t.step c' fun b o eb nb => k b o (fun z => nb (by rw [z]; exact e)) eb)

theorem X1.bookSet {W : Wd} {d : Nat} {σ : Vars} {β β1 β2 : Bk} {x : String} {l : Loc} {e i : Expr} {n v : Int} {np sp pos : Pos} (a : Ev W d σ β e (.int v) β1) (hx : (⟨x, l, .fz .book⟩ : Var) ∈ σ) (b : Ev W d σ β1 i (.int n) β2) (hn : β2 n = none) (hsz : ∃ L : List Int, L.length ≤ 2 ^ 20 ∧ ∀ k, β2 k ≠ none → k ∈ L)
    (hs : ∀ env, swapsWith e (some (.Subscript (.Name (Str.ofString x) np) i sp)) pos.line env = pure false := by intro _; rfl) :
    X1 W d σ β (.Assign [.Subscript (.Name (Str.ofString x) np) i sp] e pos) (.next σ) (β2.put n v) := .mk fun A env O M ba s g N E Q t qq => by
  refine wpAny_Assign_Subscript (a.run A env O M ba s E _ t.st fun vv h1 tk1 c1 k1 r1 => ?_) (hs env)
  have t1 := t.step c1 k1
  refine (Ev.var hx).run A env O M ba _ E _ t1.st fun bv h2 tk2 c2 k2 r2 => ?_
  have t2 := t1.step c2 k2
  refine b.run A env O M ba _ E _ t2.st fun iv h3 tk3 c3 k3 r3 => ?_
  have t3 := t2.step c3 k3
  cases r1 with
  | val r1 =>
    cases r2 with
    | val r2 =>
      cases r3 with
      | val r3 =>
        obtain ⟨tv, rfl⟩ := r1.int
        obtain ⟨tn, rfl⟩ := r3.int
        exact act_bookSet t3 (r2.mono (c2.fle k3)) hn hsz fun h4 tk4 t4 => qq _ O M h4 tk4 t4 .next
end
section
set_option maxRecDepth 20000

noncomputable def worthTab : List Nat := [0, 0, 1, 0, 2, 1, 2, 0, 3, 2, 1, 1, 0, 2, 3, 0, 4, 3, 4, 2, 5, 1, 4, 1, 6, 0, 5, 2, 6, 3, 4, 0, 5, 4, 3, 3, 6, 4, 1, 2, 5, 5, 0, 1, 7, 4, 3, 1, 0, 6, 7, 0, 0, 5, 6, 2, 1, 6, 5, 3, 0, 4, 5, 0, 6, 5, 6, 4, 3, 3, 2, 3, 4, 6, 7, 4, 0, 1, 2, 2, 1, 5, 0, 5, 7, 0, 7, 1, 2, 7, 0, 4, 5, 3, 6, 1, 2, 0, 5, 6, 6, 7, 0, 0, 3, 0, 7, 5, 6, 6, 3, 2, 4, 1, 2, 6, 3, 5, 4, 3, 4, 0, 1, 4, 2, 5, 6, 0]
noncomputable def worthT (n : Nat) : Nat := worthTab.getD n 0
noncomputable def flagsL (n : Nat) : List Nat := (List.range 7).filter fun p => n / 2 ^ p % 2 == 1
noncomputable def qsL (n p : Nat) : List Nat := (List.range p).filter fun q => !(flagsL n).contains q
noncomputable def reachL (n : Nat) : List Nat := (flagsL n).flatMap fun p => (qsL n p).map fun q => n - 2 ^ p + 2 ^ q
theorem worth_ok : ∀ n < 128, ((reachL n).all (fun m => decide (m < n)) && decide ((reachL n).length ≤ 21) && !((reachL n).map worthT).contains (worthT n) && decide (worthT n ≤ (reachL n).length) && (List.range (worthT n)).all (fun v => ((reachL n).map worthT).contains v) && decide (worthT n ≤ 7)) = true := by decide +kernel
theorem reach_lt {n m : Nat} (hn : n < 128) (h : m ∈ reachL n) : m < n := by
  have := worth_ok n hn
  simp only [Bool.and_eq_true, List.all_eq_true, decide_eq_true_eq] at this
  exact this.1.1.1.1.1 m h
theorem reach_len {n : Nat} (hn : n < 128) : (reachL n).length ≤ 21 := by
  have := worth_ok n hn
  simp only [Bool.and_eq_true, decide_eq_true_eq] at this
  exact this.1.1.1.1.2
theorem worth_not {n : Nat} (hn : n < 128) : worthT n ∉ (reachL n).map worthT := by
  have := worth_ok n hn
  simp only [Bool.and_eq_true, Bool.not_eq_true'] at this
  have h := this.1.1.1.2
  intro hm
  rw [List.contains_iff_mem.mpr hm] at h; cases h
theorem worth_le {n : Nat} (hn : n < 128) : worthT n ≤ (reachL n).length := by
  have := worth_ok n hn
  simp only [Bool.and_eq_true, decide_eq_true_eq] at this
  exact this.1.1.2
theorem worth_below {n v : Nat} (hn : n < 128) (hv : v < worthT n) : v ∈ (reachL n).map worthT := by
  have := worth_ok n hn
  simp only [Bool.and_eq_true, List.all_eq_true] at this
  exact List.contains_iff_mem.mp (this.1.2 v (List.mem_range.mpr hv))
theorem worth_7 {n : Nat} (hn : n < 128) : worthT n ≤ 7 := by
  have := worth_ok n hn
  simp only [Bool.and_eq_true, decide_eq_true_eq] at this
  exact this.2

/-- what the book may hold -/
noncomputable def BkOk (β : Bk) : Prop := ∀ k i, β k = some i → ∃ n : Nat, k = n ∧ n < 128 ∧ i = worthT n
noncomputable def BkExt (b : Nat) (β β' : Bk) : Prop := (∀ k i, β k = some i → β' k = some i) ∧ ∀ k : Int, (b : Int) ≤ k → β' k = β k
theorem BkExt.refl (b : Nat) (β : Bk) : BkExt b β β := ⟨fun _ _ e => e, fun _ _ => rfl⟩
theorem BkExt.trans {b : Nat} {β β' β'' : Bk} (x : BkExt b β β') (y : BkExt b β' β'') : BkExt b β β'' := ⟨fun k i e => y.1 k i (x.1 k i e), fun k h => (y.2 k h).trans (x.2 k h)⟩
theorem BkExt.mono {b c : Nat} {β β' : Bk} (x : BkExt b β β') (h : b ≤ c) : BkExt c β β' := ⟨x.1, fun k hk => x.2 k (by omega)⟩
theorem BkOk.fin {β : Bk} (h : BkOk β) : ∃ L : List Int, L.length ≤ 2 ^ 20 ∧ ∀ k, β k ≠ none → k ∈ L := by
  refine ⟨(List.range 128).map fun (n : Nat) => (n : Int), by simp, fun k hk => ?_⟩
  cases e : β k with
  | none => exact absurd e hk
  | some i =>
    obtain ⟨n, rfl, hn, _⟩ := h k i e
    exact List.mem_map.mpr ⟨n, List.mem_range.mpr hn, rfl⟩

noncomputable def argE : Expr → Expr
  | .Call _ (e :: _) _ _ => e
  | _ => .Constant .none 0 ⟨0, 0, 0, 0⟩
end
section
set_option maxRecDepth 20000

theorem X1.assignCell {W : Wd} {d : Nat} {σ : Vars} {β β' : Bk} {e : Expr} {r : Res} {x : String} {sl : Slot} {np pos : Pos} (a : Ev W d σ β e r β') (hx : (⟨x, .cell, sl⟩ : Var) ∈ σ) (hg : sl ≠ .glob) (hs : ∀ env : Env, env.kindOf (Str.ofString x) = some .cell → swapsWith e (some (.Name (Str.ofString x) np)) pos.line env = pure false) :
    X1 W d σ β (.Assign [.Name (Str.ofString x) np] e pos) (.next (σ.put x (.fz r.pv))) β' := .mk fun A env O M ba s g N E Q t q => by
  have hk : Kind env (Str.ofString x) .cell := (t.st.vars _ hx).kind hg
  refine wpAny_Assign_Name (a.run A env O M ba s E _ t.st fun v h1 tk1 c1 k1 r1 => ?_) (hs env hk.1)
  exact act_store (t.step c1 k1) hx (by simp) hg (r1.pr t.st.co) fun h2 tk2 t2 => q _ O M h2 tk2 t2 .next

noncomputable abbrev wtV (number book flags reached : Slot) : Vars := [⟨"number", .cell, number⟩, ⟨"book", .cell, book⟩, ⟨"flags", .cell, flags⟩, ⟨"reached", .cell, reached⟩, ⟨"range", .loc, .glob⟩, ⟨"min", .loc, .glob⟩, ⟨"len", .loc, .glob⟩]
theorem mem_flags {n p : Nat} (h : p ∈ flagsL n) : p < 7 ∧ 2 ^ p ≤ n := by
  unfold flagsL at h
  obtain ⟨h1, h2⟩ := List.mem_filter.mp h
  refine ⟨List.mem_range.mp h1, ?_⟩
  have h3 : n / 2 ^ p % 2 = 1 := by simpa using h2
  rcases Nat.lt_or_ge n (2 ^ p) with h | h
  · rw [Nat.div_eq_of_lt h] at h3; cases h3
  · exact h
theorem pow_int_nat (k : Nat) : (2 : Int) ^ ((k : Int)).toNat = ((2 ^ k : Nat) : Int) := by simp
theorem bits2 : Builtin.Int.intBits 2 = 2 := by decide +kernel

theorem ev_pow2 {W : Wd} {d : Nat} {σ : Vars} {β : Bk} {x : String} {l : Loc} {k : Nat} {kk : Nat} {p1 p2 p3 : Pos} (hx : (⟨x, l, sInt k⟩ : Var) ∈ σ) (hk : k ≤ 1000) : Ev W d σ β (.BinOp (.Constant (.int 2) kk p1) .Pow (.Name (Str.ofString x) p2) p3) (.int ((2 ^ k : Nat) : Int)) β :=
  Ev.cast (Ev.bink (.int 2) (.int (k : Int)) Ev.int (Ev.var hx) (Op.pow (by omega) (by rw [bits2]; omega))) (by rw [pow_int_nat])

theorem wt_flags {W : Wd} {d : Nat} {β : Bk} {n : Nat} (B : Blt W) (hn : n < 128) : X1 W d (wtV (sInt n) (.fz .book) .unb .unb) β (sAt (ifBody (sAt (fbody 19 tops) 0)) 0) (.next (wtV (sInt n) (.fz .book) (sNats (flagsL n)) .unb)) β := by
  refine X1.assignCell (r := .new ((flagsL n).map fun (k : Nat) => PyData.int (k : Int))) ?_ (by (repeat (first | exact List.mem_cons_self | refine List.mem_cons_of_mem _ ?_))) (by simp) (fun env h => swaps_false h)
  refine Ev.compk (.val (.rng 0 ((7 : Nat) : Int) 1)) (pInts (List.range 7)) [⟨"p", .loc, .unb⟩, ⟨"number", .free, sInt n⟩] _ ?_ ?_ ?_ ?_ ?_ ?_ ?_
  · exact Ev.callk (ps := [.d (.int 7)]) (by (repeat (first | exact List.mem_cons_self | refine List.mem_cons_of_mem _ ?_))) (Evs.consk (.int 7) Ev.int Evs.nil) (Fn.t B.range Op.range1)
  · exact Items.range' 7 (by decide)
  · exact .skip (by simp) (.skip (by simp) (.free (x := "number") (by (repeat (first | exact List.mem_cons_self | refine List.mem_cons_of_mem _ ?_))) (by simp) .nil))
  · exact .loc ⟨by decide, by decide⟩ (by decide) (.free (by (repeat (first | exact List.mem_cons_self | refine List.mem_cons_of_mem _ ?_))) (by simp) (by decide) .nil)
  · refine RunsS.elt (α := Nat) _ (fun (k : Nat) => [⟨"p", .loc, .fz (.d (.int (k : Int)))⟩, ⟨"number", .free, sInt n⟩]) (fun p => n / 2 ^ p % 2 == 1) _ (List.range 7) ?_ ?_ ?_
    · intro k hk
      exact .name (by (repeat (first | exact List.mem_cons_self | refine List.mem_cons_of_mem _ ?_))) (by simp) (by simp)
    · intro k hk
      have hk' := List.mem_range.mp hk
      have hp : 0 < 2 ^ k := Nat.two_pow_pos k
      have hp2 : 2 ^ k ≤ 2 ^ 7 := Nat.pow_le_pow_right (by decide) (by omega)
      refine .one (Et.cast (Et.cmpk (.int ((n : Int) / ((2 ^ k : Nat) : Int) % 2)) (.int 1) ?_ Ev.int Op.eq) ?_)
      · refine Ev.bink (.int ((n : Int) / ((2 ^ k : Nat) : Int))) (.int 2) ?_ Ev.int (Op.mod (by omega))
        exact Ev.bink (.int (n : Int)) (.int ((2 ^ k : Nat) : Int)) (Ev.var (by (repeat (first | exact List.mem_cons_self | refine List.mem_cons_of_mem _ ?_)))) (ev_pow2 (by (repeat (first | exact List.mem_cons_self | refine List.mem_cons_of_mem _ ?_))) (by omega)) (Op.fdiv (by omega) (by omega))
      · rw [Bool.eq_iff_iff, beq_iff_eq, beq_iff_eq]
        rw [show (n : Int) / ((2 ^ k : Nat) : Int) % 2 = ((n / 2 ^ k % 2 : Nat) : Int) by simp]
        omega
    · intro k hk _
      exact Ev.var (by (repeat (first | exact List.mem_cons_self | refine List.mem_cons_of_mem _ ?_)))
  · (refine Free.name ?_; intro v hv e; simp only [List.mem_cons, List.not_mem_nil, or_false] at hv; (repeat (cases hv with | inl h => (subst h; first | rfl | (exfalso; simp at e)) | inr hv => ?_)); all_goals (subst hv; first | rfl | (exfalso; simp at e)))
  · simp only [List.length_map]
    exact Nat.le_trans (List.length_filter_le _ _) (by simp)
end
section
set_option maxRecDepth 20000

/-- the calls that a number's worth makes -/
noncomputable def Calls19 (W : Wd) (d : Nat) (m : Nat) : Prop := ∀ β, BkOk β → ∃ β', BkOk β' ∧ BkExt (m + 1) β β' ∧ Fn W d "_law_worth" [.d (.int (m : Int)), .book] β (.int ((worthT m : Nat) : Int)) β'
noncomputable abbrev rcV (n : Nat) (p q : Slot) : Vars := [⟨"p", .loc, p⟩, ⟨"q", .loc, q⟩, ⟨"range", .loc, .glob⟩, ⟨"_law_worth", .loc, .glob⟩, ⟨"book", .free, .fz .book⟩, ⟨"flags", .free, sNats (flagsL n)⟩, ⟨"number", .free, sInt n⟩]
noncomputable def compGens : Stmt → List Comprehension
  | .Assign _ (.ListComp _ g _ _) _ => g
  | _ => []
noncomputable def compElt : Stmt → Expr
  | .Assign _ (.ListComp e _ _ _) _ => e
  | _ => .Constant .none 0 ⟨0, 0, 0, 0⟩
noncomputable def genAt : List Comprehension → Nat → Comprehension
  | g :: _, 0 => g
  | _ :: r, n + 1 => genAt r n
  | [], _ => ⟨.Constant .none 0 ⟨0, 0, 0, 0⟩, .Constant .none 0 ⟨0, 0, 0, 0⟩, [], 0⟩
noncomputable abbrev rcS : Stmt := sAt (ifBody (sAt (fbody 19 tops) 0)) 1

theorem eqv_ints (l : List Nat) (k : Nat) : ((l.map fun (n : Nat) => PyData.int (n : Int)).any fun y => PyData.eqv y (.int (k : Int))) = l.contains k := by
  rw [List.any_map]
  rw [Bool.eq_iff_iff, List.any_eq_true, List.contains_iff_mem]
  constructor
  · rintro ⟨x, hx, e⟩
    have : ((x : Int) == (k : Int)) = true := e
    rw [beq_iff_eq] at this
    have : x = k := by omega
    subst this; exact hx
  · intro h
    exact ⟨k, h, by show ((k : Int) == (k : Int)) = true; simp⟩
theorem canLay_ints (l : List Nat) : PyData.canLayAll0 (l.map fun (n : Nat) => PyData.int (n : Int)) = true := by
  induction l with
  | nil => rfl
  | cons x l ih => simp [PyData.canLayAll0, PyData.canLay0, ih]

theorem wt_inner {W : Wd} {d : Nat} {n p : Nat} (hn : n < 128) (hp : p ∈ flagsL n) (hc : ∀ m ∈ reachL n, Calls19 W d m) :
    ∀ (qs : List Nat) (β : Bk), (∀ q ∈ qs, q < p) → BkOk β → ∃ β', BkOk β' ∧ BkExt n β β' ∧
      RunsS W d (rcV n (sInt p) .unb) (genAt (compGens rcS) 1).target (genAt (compGens rcS) 1).ifs (emitB (compElt rcS)) β (pInts qs) ((qs.filter fun q => !(flagsL n).contains q).map fun q => PyData.int ((worthT (n - 2 ^ p + 2 ^ q) : Nat) : Int)) β' := by
  intro qs
  induction qs with
  | nil => intro β _ hb; exact ⟨β, hb, BkExt.refl _ _, .nil⟩
  | cons q qs ih =>
    intro β hq hb
    have hq0 := hq q List.mem_cons_self
    obtain ⟨p7, hpn⟩ := mem_flags hp
    have set : SetT (rcV n (sInt p) .unb) (genAt (compGens rcS) 1).target (.d (.int (q : Int))) (rcV n (sInt p) (sInt q)) := .name (by (repeat (first | exact List.mem_cons_self | refine List.mem_cons_of_mem _ ?_))) (by simp) (by simp)
    have test : Tests W d (rcV n (sInt p) (sInt q)) β (genAt (compGens rcS) 1).ifs (!(flagsL n).contains q) β := by
      refine .one (Et.cast (Et.cmpk (.int (q : Int)) (.dat (dInts (flagsL n))) (Ev.var (by (repeat (first | exact List.mem_cons_self | refine List.mem_cons_of_mem _ ?_)))) (Ev.var (by (repeat (first | exact List.mem_cons_self | refine List.mem_cons_of_mem _ ?_)))) (Op.notinl (x := .int (q : Int)) rfl (canLay_ints _) (Nat.zero_le _))) ?_)
      rw [eqv_ints]
    by_cases h : (flagsL n).contains q = true
    · obtain ⟨β', h1, h2, h3⟩ := ih β (fun x hx => hq x (List.mem_cons_of_mem _ hx)) hb
      refine ⟨β', h1, h2, ?_⟩
      have := RunsS.cons (ps := pInts qs) set test (out1 := []) (β2 := β) (fun z => by rw [h] at z; cases z) (fun _ => ⟨rfl, rfl⟩) h3
      rw [List.filter_cons_of_neg (by rw [h]; decide)]
      exact this
    · have hm : n - 2 ^ p + 2 ^ q ∈ reachL n := by
        unfold reachL
        refine List.mem_flatMap.mpr ⟨p, hp, List.mem_map.mpr ⟨q, ?_, rfl⟩⟩
        exact List.mem_filter.mpr ⟨List.mem_range.mpr hq0, by simpa using h⟩
      have hlt := reach_lt hn hm
      obtain ⟨β1, a1, a2, a3⟩ := hc _ hm β hb
      obtain ⟨β', h1, h2, h3⟩ := ih β1 (fun x hx => hq x (List.mem_cons_of_mem _ hx)) a1
      refine ⟨β', h1, (a2.mono (by omega)).trans h2, ?_⟩
      have call : Ev W d (rcV n (sInt p) (sInt q)) β (compElt rcS) (.int ((worthT (n - 2 ^ p + 2 ^ q) : Nat) : Int)) β1 := by
        refine Ev.call (ps := [.d (.int ((n - 2 ^ p + 2 ^ q : Nat) : Int)), .book]) (β1 := β) (by (repeat (first | exact List.mem_cons_self | refine List.mem_cons_of_mem _ ?_))) ?_ a3
        refine Evs.consk (.int ((n - 2 ^ p + 2 ^ q : Nat) : Int)) ?_ (Evs.consk (.val .book) (Ev.var (by (repeat (first | exact List.mem_cons_self | refine List.mem_cons_of_mem _ ?_)))) Evs.nil)
        refine Ev.cast (Ev.bink (.int ((n : Int) - ((2 ^ p : Nat) : Int))) (.int ((2 ^ q : Nat) : Int)) ?_ (ev_pow2 (by (repeat (first | exact List.mem_cons_self | refine List.mem_cons_of_mem _ ?_))) (by omega)) Op.add) ?_
        · exact Ev.bink (.int (n : Int)) (.int ((2 ^ p : Nat) : Int)) (Ev.var (by (repeat (first | exact List.mem_cons_self | refine List.mem_cons_of_mem _ ?_)))) (ev_pow2 (by (repeat (first | exact List.mem_cons_self | refine List.mem_cons_of_mem _ ?_))) (by omega)) Op.sub
        · show Res.int _ = Res.int _
          congr 3
          omega
      have := RunsS.cons (ps := pInts qs) set test (out1 := [PyData.int ((worthT (n - 2 ^ p + 2 ^ q) : Nat) : Int)]) (β2 := β1) (fun _ => BodyOk.elt call) (fun z => absurd (by simpa using z) h) h3
      rw [List.filter_cons_of_pos (by simpa using h)]
      exact this
end
section
set_option maxRecDepth 20000

noncomputable def compScope : Stmt → Scope
  | .Assign _ (.ListComp _ _ s _) _ => s
  | _ => { kind := .function, names := [], isGenerator := false, isCoroutine := false }
noncomputable def compPos : Stmt → Pos
  | .Assign _ (.ListComp _ _ _ p) _ => p
  | _ => ⟨0, 0, 0, 0⟩
noncomputable def innerOf (n p : Nat) : List PyData := ((List.range p).filter fun q => !(flagsL n).contains q).map fun q => PyData.int ((worthT (n - 2 ^ p + 2 ^ q) : Nat) : Int)
theorem wt_outer {W : Wd} {d : Nat} {n : Nat} (B : Blt W) (hn : n < 128) (hc : ∀ m ∈ reachL n, Calls19 W d m) :
    ∀ (ps : List Nat) (β : Bk), (∀ p ∈ ps, p ∈ flagsL n) → BkOk β → ∃ β', BkOk β' ∧ BkExt n β β' ∧
      RunsS W d (rcV n .unb .unb) (genAt (compGens rcS) 0).target (genAt (compGens rcS) 0).ifs (nestB (compElt rcS) (compGens rcS) (compScope rcS) (compPos rcS) 0 (genAt (compGens rcS) 1).iter) β (pInts ps) (ps.flatMap (innerOf n)) β' := by
  intro ps
  induction ps with
  | nil => intro β _ hb; exact ⟨β, hb, BkExt.refl _ _, .nil⟩
  | cons p ps ih =>
    intro β hp hb
    have hp0 := hp p List.mem_cons_self
    obtain ⟨p7, hpn⟩ := mem_flags hp0
    obtain ⟨β1, a1, a2, a3⟩ := wt_inner hn hp0 hc (List.range p) β (fun q hq => List.mem_range.mp hq) hb
    obtain ⟨β', h1, h2, h3⟩ := ih β1 (fun x hx => hp x (List.mem_cons_of_mem _ hx)) a1
    refine ⟨β', h1, a2.trans h2, ?_⟩
    have set : SetT (rcV n .unb .unb) (genAt (compGens rcS) 0).target (.d (.int (p : Int))) (rcV n (sInt p) .unb) := .name (by (repeat (first | exact List.mem_cons_self | refine List.mem_cons_of_mem _ ?_))) (by simp) (by simp)
    have body : BodyOk W d (rcV n (sInt p) .unb) β (nestB (compElt rcS) (compGens rcS) (compScope rcS) (compPos rcS) 0 (genAt (compGens rcS) 1).iter) (innerOf n p) β1 := by
      refine BodyOk.nest (r := .val (.rng 0 (p : Int) 1)) (items := pInts (List.range p)) (g := genAt (compGens rcS) 1) (β1 := β) ?_ (Items.range' p (by omega)) a3 (fun _ _ _ => rfl) ?_ rfl rfl ?_
      · exact Ev.callk (ps := [.d (.int (p : Int))]) (by (repeat (first | exact List.mem_cons_self | refine List.mem_cons_of_mem _ ?_))) (Evs.consk (.int (p : Int)) (Ev.var (by (repeat (first | exact List.mem_cons_self | refine List.mem_cons_of_mem _ ?_)))) Evs.nil) (Fn.t B.range Op.range1)
      · (refine Free.name ?_; intro v hv e; simp only [List.mem_cons, List.not_mem_nil, or_false] at hv; (repeat (cases hv with | inl h => (subst h; first | rfl | (exfalso; simp at e)) | inr hv => ?_)); all_goals (subst hv; first | rfl | (exfalso; simp at e)))
      · intro _ _; rfl
    have := RunsS.cons (ps := pInts ps) set (b := true) (β1 := β) .nil (out1 := innerOf n p) (β2 := β1) (fun _ => body) (fun z => by cases z) h3
    exact this
end
section
set_option maxRecDepth 20000

theorem nest_eq (elt target iter : Expr) (ifs : List Expr) (g' : Comprehension) (rest : List Comprehension) (scope : Scope) (pos : Pos) (ha : (g'.is_async != 0) = false) (it acc : Value) (env : Env) :
    compTurn (.ListComp elt (⟨target, iter, ifs, 0⟩ :: g' :: rest) scope pos) 0 it acc env = turnTree (.ListComp elt (⟨target, iter, ifs, 0⟩ :: g' :: rest) scope pos) 0 target ifs (nestB elt (⟨target, iter, ifs, 0⟩ :: g' :: rest) scope pos 0 g'.iter) iter.pos it acc env := by
  unfold compTurn turnTree nestB
  simp only [List.getElem?_cons_zero, List.getElem?_cons_succ, ha, Bool.false_eq_true, if_false, bne_self_eq_false]
  refine bind_congr fun _ => bind_congr fun o => ?_
  cases o with
  | none => rfl
  | some v =>
    refine bind_congr fun _ => bind_congr fun _ => bind_congr fun ok => ?_
    cases ok with
    | false => rfl
    | true => simp only [if_true, bind_assoc, pure_bind]

noncomputable def asgVal : Stmt → Expr
  | .Assign _ e _ => e
  | _ => .Constant .none 0 ⟨0, 0, 0, 0⟩
theorem inner_eq (n : Nat) (p : Nat) : innerOf n p = ((qsL n p).map fun q => n - 2 ^ p + 2 ^ q).map fun m => PyData.int ((worthT m : Nat) : Int) := by
  unfold innerOf qsL
  rw [List.map_map]; rfl
theorem reach_eq (n : Nat) : (flagsL n).flatMap (innerOf n) = ((reachL n).map worthT).map fun (k : Nat) => PyData.int (k : Int) := by
  unfold reachL
  rw [List.map_map, List.map_flatMap]
  congr 1
  funext p
  rw [inner_eq]; rfl

theorem wt_reached {W : Wd} {d : Nat} {β : Bk} {n : Nat} (B : Blt W) (hn : n < 128) (hc : ∀ m ∈ reachL n, Calls19 W d m) (hb : BkOk β) :
    ∃ β', BkOk β' ∧ BkExt n β β' ∧ X1 W d (wtV (sInt n) (.fz .book) (sNats (flagsL n)) .unb) β rcS (.next (wtV (sInt n) (.fz .book) (sNats (flagsL n)) (sNats ((reachL n).map worthT)))) β' := by
  obtain ⟨β', h1, h2, h3⟩ := wt_outer B hn hc (flagsL n) β (fun _ h => h) hb
  refine ⟨β', h1, h2, ?_⟩
  rw [reach_eq] at h3
  refine X1.assignCell (r := .new (((reachL n).map worthT).map fun (k : Nat) => PyData.int (k : Int))) ?_ (by (repeat (first | exact List.mem_cons_self | refine List.mem_cons_of_mem _ ?_))) (by simp) (fun env h => swaps_false h)
  refine Ev.comp (r := .dat (dInts (flagsL n))) (items := pInts (flagsL n)) (σc := rcV n .unb .unb) (β1 := β) ?_ (items_ints _) ?_ ?_ h3 (fun it acc env => nest_eq _ _ _ _ _ _ _ _ rfl it acc env) ?_ ?_
  · exact Ev.var (by (repeat (first | exact List.mem_cons_self | refine List.mem_cons_of_mem _ ?_)))
  · exact .skip (by simp) (.skip (by simp) (.skip (by simp) (.skip (by simp) (.skip (by simp) (.free (x := "book") (by (repeat (first | exact List.mem_cons_self | refine List.mem_cons_of_mem _ ?_))) (by simp) (.free (x := "flags") (by (repeat (first | exact List.mem_cons_self | refine List.mem_cons_of_mem _ ?_))) (by simp) (.free (x := "number") (by (repeat (first | exact List.mem_cons_self | refine List.mem_cons_of_mem _ ?_))) (by simp) .nil)))))))
  · refine .loc ⟨by decide, by decide⟩ (by decide) (.loc ⟨by decide, by decide⟩ (by decide) (.glob ⟨by decide, by decide⟩ (by decide) (.glob ⟨by decide, by decide⟩ (by decide) (.free (by (repeat (first | exact List.mem_cons_self | refine List.mem_cons_of_mem _ ?_))) (by simp) (by decide) (.free (by (repeat (first | exact List.mem_cons_self | refine List.mem_cons_of_mem _ ?_))) (by simp) (by decide) (.free (by (repeat (first | exact List.mem_cons_self | refine List.mem_cons_of_mem _ ?_))) (by simp) (by decide) .nil))))))
  · (refine Free.name ?_; intro v hv e; simp only [List.mem_cons, List.not_mem_nil, or_false] at hv; (repeat (cases hv with | inl h => (subst h; first | rfl | (exfalso; simp at e)) | inr hv => ?_)); all_goals (subst hv; first | rfl | (exfalso; simp at e)))
  · have := reach_len hn
    simp only [List.length_map]; omega

theorem wt_min {W : Wd} {d : Nat} {β : Bk} {n : Nat} (B : Blt W) (hn : n < 128) {fl : Slot} :
    Ev W d (wtV (sInt n) (.fz .book) fl (sNats ((reachL n).map worthT))) β (asgVal (sAt (ifBody (sAt (fbody 19 tops) 0)) 2)) (.int ((worthT n : Nat) : Int)) β := by
  have hl := reach_len hn
  have hlen : ((reachL n).map worthT).length = (reachL n).length := List.length_map _
  generalize hR : (reachL n).map worthT = R at hlen ⊢
  have hRl : R.length ≤ 21 := by omega
  refine Ev.callk (ps := [.d (.list ((((List.range (R.length + 1)).filter fun v => !R.contains v).map fun (k : Nat) => (k : Int)).map .int))]) (by (repeat (first | exact List.mem_cons_self | refine List.mem_cons_of_mem _ ?_))) (Evs.consk (.new ((((List.range (R.length + 1)).filter fun v => !R.contains v).map fun (k : Nat) => (k : Int)).map .int)) ?_ Evs.nil) (Fn.b B.min (Op.min ?_ ?_))
  · rw [List.map_map]
    refine Ev.compk (.val (.rng 0 ((R.length + 1 : Nat) : Int) 1)) (pInts (List.range (R.length + 1))) [⟨"v", .loc, .unb⟩, ⟨"reached", .free, sNats R⟩] _ ?_ (Items.range' _ (by omega)) ?_ ?_ ?_ ?_ ?_
    · refine Ev.callk (ps := [.d (.int ((R.length + 1 : Nat) : Int))]) (by (repeat (first | exact List.mem_cons_self | refine List.mem_cons_of_mem _ ?_))) (Evs.consk (.int ((R.length + 1 : Nat) : Int)) ?_ Evs.nil) (Fn.t B.range Op.range1)
      refine Ev.cast (Ev.bink (.int (R.length : Int)) (.int 1) ?_ Ev.int Op.add) (by simp)
      refine Ev.cast (Ev.callk (ps := [.d (dInts R)]) (by (repeat (first | exact List.mem_cons_self | refine List.mem_cons_of_mem _ ?_))) (Evs.consk (.dat (dInts R)) (Ev.var (by (repeat (first | exact List.mem_cons_self | refine List.mem_cons_of_mem _ ?_)))) Evs.nil) (Fn.b B.len (Op.lenl (by simp; omega)))) ?_
      show Res.int _ = Res.int _
      rw [List.length_map]
    · exact .skip (by simp) (.skip (by simp) (.free (x := "reached") (by (repeat (first | exact List.mem_cons_self | refine List.mem_cons_of_mem _ ?_))) (by simp) .nil))
    · exact .loc ⟨by decide, by decide⟩ (by decide) (.free (by (repeat (first | exact List.mem_cons_self | refine List.mem_cons_of_mem _ ?_))) (by simp) (by decide) .nil)
    · refine RunsS.elt (α := Nat) _ (fun (k : Nat) => [⟨"v", .loc, .fz (.d (.int (k : Int)))⟩, ⟨"reached", .free, sNats R⟩]) (fun v => !R.contains v) _ (List.range (R.length + 1)) ?_ ?_ ?_
      · intro k hk
        exact .name (by (repeat (first | exact List.mem_cons_self | refine List.mem_cons_of_mem _ ?_))) (by simp) (by simp)
      · intro k hk
        refine .one (Et.cast (Et.cmpk (.int (k : Int)) (.dat (dInts R)) (Ev.var (by (repeat (first | exact List.mem_cons_self | refine List.mem_cons_of_mem _ ?_)))) (Ev.var (by (repeat (first | exact List.mem_cons_self | refine List.mem_cons_of_mem _ ?_)))) (Op.notinl (x := .int (k : Int)) rfl (canLay_ints _) (Nat.zero_le _))) ?_)
        rw [eqv_ints]
      · intro k hk _
        exact Ev.var (by (repeat (first | exact List.mem_cons_self | refine List.mem_cons_of_mem _ ?_)))
    · (refine Free.name ?_; intro v hv e; simp only [List.mem_cons, List.not_mem_nil, or_false] at hv; (repeat (cases hv with | inl h => (subst h; first | rfl | (exfalso; simp at e)) | inr hv => ?_)); all_goals (subst hv; first | rfl | (exfalso; simp at e)))
    · simp only [List.length_map]
      exact Nat.le_trans (List.length_filter_le _ _) (by simp; omega)
  · have h1 := worth_not hn
    have h2 := worth_le hn
    rw [hR] at h1
    refine List.mem_map.mpr ⟨worthT n, List.mem_filter.mpr ⟨List.mem_range.mpr (by omega), ?_⟩, rfl⟩
    rw [Bool.not_eq_true']
    cases h : R.contains (worthT n) with
    | false => rfl
    | true => exact absurd (List.contains_iff_mem.mp h) h1
  · intro a ha
    obtain ⟨v, hv, rfl⟩ := List.mem_map.mp ha
    obtain ⟨_, hv2⟩ := List.mem_filter.mp hv
    rcases Nat.lt_or_ge v (worthT n) with h | h
    · have := worth_below hn h
      rw [hR] at this
      rw [List.contains_iff_mem.mpr this] at hv2; cases hv2
    · omega

theorem worth_fn {W : Wd} (g : GDef W "_law_worth" 19 ["number", "book"]) (B : Blt W) : ∀ (n : Nat), n < 128 → Calls19 W (n + 1) n := by
  intro n
  induction n using Nat.strongRecOn with
  | _ n ih =>
    intro hn β hb
    have fv : FV (fscope 19 tops).names (["number", "book"].zip [.d (.int (n : Int)), .book]) (wtV (sInt n) (.fz .book) .unb .unb) := by
      refine .pcell ⟨by decide, by decide⟩ (by decide +kernel) List.mem_cons_self (.pcell ⟨by decide, by decide⟩ (by decide +kernel) (List.mem_cons_of_mem _ List.mem_cons_self) (.cell ⟨by decide, by decide⟩ (by decide +kernel) (.cell ⟨by decide, by decide⟩ (by decide +kernel) ?_)))
      exact .glob ⟨by decide, by decide⟩ (by decide +kernel) (.glob ⟨by decide, by decide⟩ (by decide +kernel) (.glob ⟨by decide, by decide⟩ (by decide +kernel) .nil))
    have test : ∀ β, Et W n (wtV (sInt n) (.fz .book) .unb .unb) β (ifTest (sAt (fbody 19 tops) 0)) (β n).isNone β := fun β =>
      Et.cmpk (.int (n : Int)) (.val .book) (Ev.var (by (repeat (first | exact List.mem_cons_self | refine List.mem_cons_of_mem _ ?_)))) (Ev.var (by (repeat (first | exact List.mem_cons_self | refine List.mem_cons_of_mem _ ?_)))) Op.notInBook
    have ret : ∀ (β : Bk) (fl re : Slot), β n = some ((worthT n : Nat) : Int) → Ex W n (wtV (sInt n) (.fz .book) fl re) β (fbody 19 tops).tail (.ret (.d (.int ((worthT n : Nat) : Int)))) β := fun β fl re h => by
      refine Ex.ret (X1.ret (r := .int ((worthT n : Nat) : Int)) ?_)
      exact Ev.subk (.val .book) (.int (n : Int)) (Ev.var (by (repeat (first | exact List.mem_cons_self | refine List.mem_cons_of_mem _ ?_)))) (Ev.var (by (repeat (first | exact List.mem_cons_self | refine List.mem_cons_of_mem _ ?_)))) (Op.itemBook h)
    cases hbn : β n with
    | some i =>
      obtain ⟨m, e1, _, e2⟩ := hb _ i hbn
      have : m = n := by omega
      subst this
      subst e2
      refine ⟨β, hb, BkExt.refl _ _, Fn.of g rfl (by decide) fv ?_⟩
      exact Ex.consk _ (X1.ite (test β) (fun h => by rw [hbn] at h; cases h) fun _ => Ex.nil) (ret β .unb .unb hbn)
    | none =>
      have hc : ∀ m ∈ reachL n, Calls19 W n m := fun m hm β1 hb1 => by
        have hlt := reach_lt hn hm
        obtain ⟨β2, a, b, c⟩ := ih m hlt (by omega) β1 hb1
        exact ⟨β2, a, b, c.deep (by omega)⟩
      obtain ⟨β', h1, h2, h3⟩ := wt_reached (d := n) (β := β) B hn hc hb
      have hn' : β' n = none := by rw [h2.2 _ (Int.le_refl _)]; exact hbn
      refine ⟨β'.put n ((worthT n : Nat) : Int), ?_, ?_, Fn.of g rfl (by decide) fv ?_⟩
      · intro k i e
        unfold Bk.put at e
        split at e
        · rename_i hk
          cases e
          exact ⟨n, hk, hn, rfl⟩
        · exact h1 k i e
      · refine ⟨fun k i e => ?_, fun k hk => ?_⟩
        · unfold Bk.put
          rw [if_neg (fun z => by rw [z, hbn] at e; cases e)]
          exact h2.1 k i e
        · unfold Bk.put
          rw [if_neg (by omega)]
          exact h2.2 k (by omega)
      · refine Ex.cons (σ1 := wtV (sInt n) (.fz .book) (sNats (flagsL n)) (sNats ((reachL n).map worthT))) (β1 := β'.put n ((worthT n : Nat) : Int)) (X1.ite (test β) (fun _ => ?_) fun h => by rw [hbn] at h; cases h) (ret _ _ _ (by unfold Bk.put; rw [if_pos rfl]))
        refine Ex.cons (β1 := β) (wt_flags B hn) (Ex.cons h3 (Ex.cons (X1.bookSet (β1 := β') (wt_min B hn) (by (repeat (first | exact List.mem_cons_self | refine List.mem_cons_of_mem _ ?_))) (Ev.var (by (repeat (first | exact List.mem_cons_self | refine List.mem_cons_of_mem _ ?_)))) hn' h1.fin) Ex.nil))
end
section
set_option maxRecDepth 20000

theorem Items.str {W : Wd} {y : Str} : Items W (.d (.str y)) ((signs y).map fun k => PV.d (.str k)) := fun d A M ba β s v E Q c hv q => by
  obtain ⟨t, rfl⟩ := hv.str
  have conv : ∀ i u, i < y.cps.size → SignAt y i u → ∃ p, ((signs y).map fun k => PV.d (.str k))[i]? = some p ∧ PR (frz s.heap M) ba u p := fun i u hi e => by
    obtain ⟨ch, t', h1, rfl⟩ := e
    exact ⟨.d (.str ⟨#[ch]⟩), by rw [List.getElem?_map, signs_get h1]; rfl, .d (.str _ _)⟩
  have len : ((signs y).map fun k => PV.d (.str k)).length = y.cps.size := by simp [signs]
  cases ha : y.cps.all (· < 128)
  · refine wpAny_pyIter_wide ha ?_
    obtain ⟨c2, k2, hn, hs, hf⟩ := push_new c { cls := .type "str_iterator", data := .fields #[.str y t, .int 0 0] } rfl s.toks
    refine q _ [s.heap.objs.size] (fun i h => h.IsStrIter s.heap.objs.size "str_iterator" y t i) _ _ c2 (fun b o e => Heap.get?_push_of_some _ e) hn ⟨_, hs⟩ ⟨?_, ?_, ?_⟩ ⟨_, hs, rfl, rfl⟩
    · rw [len]
      exact Walks.conv (Walks.strWide c.hand _ y t) conv
    · rintro i h ⟨o', e, c', d'⟩
      exact ⟨o', _, _, e, c', d', by decide⟩
    · intro b hb
      exact .inl (List.mem_singleton.mp hb)
  · refine wpAny_pyIter_ascii ha ?_
    obtain ⟨c2, k2, hn, hs, hf⟩ := push_new c { cls := .type "str_ascii_iterator", data := .fields #[.str y t, .int 0 0] } rfl s.toks
    refine q _ [s.heap.objs.size] (fun i h => h.IsStrIter s.heap.objs.size "str_ascii_iterator" y t i) _ _ c2 (fun b o e => Heap.get?_push_of_some _ e) hn ⟨_, hs⟩ ⟨?_, ?_, ?_⟩ ⟨_, hs, rfl, rfl⟩
    · rw [len]
      exact Walks.conv (Walks.strAscii c.hand _ y t) conv
    · rintro i h ⟨o', e, c', d'⟩
      exact ⟨o', _, _, e, c', d', by decide⟩
    · intro b hb
      exact .inl (List.mem_singleton.mp hb)

noncomputable def ctops : List Stmt := fbody 3 tops
/-- the class Whitespace, as the laid heap holds it -/
structure GCls (W : Wd) (K : Frag) (C : Addr) : Prop where
  kin : K.In W.h0
  name : W.gl (Str.ofString "Whitespace") = some (.ref C)
  keep : KeepOk W (.ref C)
  getA : findIn K (.ref C) "__getattribute__" = some (some (.builtin "object.__getattribute__"))
  noGA : findIn K (.ref C) "__getattr__" = some none
  setA : findIn K (.ref C) "__setattr__" = some (some (.builtin "object.__setattr__"))
  over : plainOver K C = true
  hasd : hasDictIn K C = true
  makes : makesIn K C = true
  own : ∀ m ∈ (["raw", "n", "nt", "norm", "is_simple"] : List String), findIn K (.ref C) (Str.ofString m) = some none ∧ takerIn K C (Str.ofString m) = some none
  clsS : ∃ mc t, readsIn K C mc = true ∧ findCls K (.ref C) mc (Str.ofString "S") = some (.val (.str " " t))
  clsT : ∃ mc t, readsIn K C mc = true ∧ findCls K (.ref C) mc (Str.ofString "T") = some (.val (.str "\t" t))
  init : ∃ f, findIn K (.ref C) "__init__" = some (some (.ref f)) ∧ typeIn K (.ref f) = some (.type "function") ∧ DefAt W f ["self", "ws"] (fscope 1 ctops) (fbody 1 ctops)
/-- a method of the class -/
structure MDef (W : Wd) (K : Frag) (C : Addr) (x : String) (k : Nat) (pn : List String) : Prop where
  ex : ∃ f, findIn K (.ref C) (Str.ofString x) = some (some (.ref f)) ∧ typeIn K (.ref f) = some (.type "function") ∧ DefAt W f pn (fscope k ctops) (fbody k ctops) ∧ KeepOk W (.ref f)

theorem VR.handed {f : Fz} {v : Value} {y : PyData} (h : VR f v y) : handedIn v = true := by cases h <;> rfl

section
variable {W : Wd} {K : Frag} {C : Addr} {d : Nat} {σ : Vars} {β : Bk}
theorem GCls.at (G : GCls W K C) {A M ba} {s : Shared} (c : Co W d A M ba β s) : K.In s.heap := G.kin.keeps fun b o e => (c.base b o e).1

theorem Ev.attr {x a : String} {l : Loc} {p : PV} {fields : List (String × PyData)} {free : List String} {y : PyData} {np pos : Pos} (G : GCls W K C) (hx : (⟨x, l, .fz p⟩ : Var) ∈ σ) (hp : ∀ f ba v, PR f ba v p → PR f ba v (.inst C fields free)) (ha : (a, y) ∈ fields)
    (ho : a ∈ (["raw", "n", "nt", "norm", "is_simple"] : List String)) : Ev W d σ β (.Attribute (.Name (Str.ofString x) np) (Str.ofString a) pos) (.dat y) β := .mk fun A env O M ba s E Q t q => by
  refine Attribute_Name_ ?_ rfl
  refine (Ev.var (W := W) (d := d) (β := β) hx (pos := np)).run A env O M ba s E _ t fun v h1 tk1 c1 k1 r1 => ?_
  cases r1 with
  | val r1 =>
    cases hp _ _ _ r1 with
    | @inst x' dx _ es n _ _ ga gb gc gd ge =>
      obtain ⟨w, hw, vw⟩ := gd _ ha
      have I : InstAt h1 x' (instObj C dx) C (some (dictOf es n)) := ⟨(frz_some.mp ga).2, rfl, rfl, (frz_some.mp gb).2⟩
      refine get_value (G.at c1) I G.getA (findObj_own G.hasd (G.own a ho).1 rfl hw) vw.handed ?_
      exact q _ h1 (tk1 + 1) (c1.toks _) k1 (.val (.d vw))

/-- a global class's own text -/
theorem Ev.clsattr {x a : String} {l : Loc} {y : Str} {np pos : Pos} (G : GCls W K C) (hx : (⟨x, l, .glob⟩ : Var) ∈ σ) (hf : W.gl (Str.ofString x) = some (.ref C))
    (hc : ∃ mc t, readsIn K C mc = true ∧ findCls K (.ref C) mc (Str.ofString a) = some (.val (.str y t))) : Ev W d σ β (.Attribute (.Name (Str.ofString x) np) (Str.ofString a) pos) (.str y) β := .mk fun A env O M ba s E Q t q => by
  refine Attribute_Name_ ?_ rfl
  refine gl_name t hx hf ?_
  obtain ⟨mc, tk, h1, h2⟩ := hc
  refine cls_value (G.at t.co) h1 h2 rfl ?_
  exact q _ s.heap (s.toks + 1) (t.co.toks _) (Kp.refl _ _) (.val (.d (.str _ _)))

theorem MethAt.inst {x : String} {k : Nat} {pn : List String} {fields free} {f : Addr} (G : GCls W K C) (hf : findIn K (.ref C) (Str.ofString x) = some (some (.ref f))) (ht : typeIn K (.ref f) = some (.type "function")) (hx : x ∈ free) :
    MethAt W (.inst C fields free) (Str.ofString x) (.ref f) := fun d A M ba β s v E pl Q c hp q => by
  cases hp with
  | @inst x' dx _ es n _ _ ga gb gc gd ge =>
    have I : InstAt s.heap x' (instObj C dx) C (some (dictOf es n)) := ⟨(frz_some.mp ga).2, rfl, rfl, (frz_some.mp gb).2⟩
    exact method_fn (G.at c) I G.getA G.noGA hf ht (by show (lookIn _ (dictOf es n)).map _ = _; rw [lookIn_dict, ge x hx]; rfl) (q s.toks)
theorem Mt.of {x : String} {k : Nat} {pn : List String} {ps : List PV} {fields free} {σ' : Vars} {p : PV} {β' : Bk} (G : GCls W K C) (m : MDef W K C x k pn) (hx : x ∈ free) (hlen : pn.length = ps.length + 1) (hnd : (pn.map Str.ofString).Nodup)
    (hfv : FV (fscope k ctops).names (pn.zip (.inst C fields free :: ps)) σ') (b : Ex W d σ' β (fbody k ctops) (.ret p) β') : Mt W (d + 1) (.inst C fields free) x ps β (.val p) β' := by
  obtain ⟨f, h1, h2, h3, h4⟩ := m.ex
  exact ⟨.ref f, MethAt.inst (k := k) (pn := pn) G h1 h2 hx, h4, Op.def h3 hlen hnd hfv b⟩
theorem Mt.deep {d' : Nat} {p : PV} {x : String} {ps : List PV} {β' : Bk} {r : Res} (m : Mt W d' p x ps β r β') (h : d' ≤ d) : Mt W d p x ps β r β' := by
  obtain ⟨f, h1, h2, h3⟩ := m.ex
  exact ⟨f, h1, h2, h3.deep h⟩
end
end
section
set_option maxRecDepth 20000

mutual
theorem VR.off {f g : Fz} (k : ∀ b o, f b = some o → (∀ es n, o.data ≠ .dict es n) → g b = some o) : ∀ {v : Value} {d : PyData}, VR f v d → VR g v d
  | _, _, .none => .none
  | _, _, .bool b => .bool b
  | _, _, .int i t => .int i t
  | _, _, .str x t => .str x t
  | _, _, .list a b c d => .list (k _ _ a fun es n z => by rw [c] at z; cases z) b c (VRs.off k d)
  | _, _, .tuple a b c d => .tuple (k _ _ a fun es n z => by rw [c] at z; cases z) b c (VRs.off k d)
theorem VRs.off {f g : Fz} (k : ∀ b o, f b = some o → (∀ es n, o.data ≠ .dict es n) → g b = some o) : ∀ {vs : List Value} {ds : List PyData}, VRs f vs ds → VRs g vs ds
  | _, _, .nil => .nil
  | _, _, .cons a b => .cons (VR.off k a) (VRs.off k b)
end
/-- slots that no object's dict stands behind -/
inductive Plain : Slot → Prop
  | unb : Plain .unb
  | dat {x} : Plain (.fz (.d x))
  | rng {a b c} : Plain (.fz (.rng a b c))
  | own {xs} : Plain (.own xs)
  | glob : Plain .glob

theorem getL_put_same (name : Str) (hsh : Int) (t : Tok) (v : Value) : ∀ es : List DictEntry, getL name (putL name hsh (.str name t) v es) = some (some v) := by
  have key : ∀ es : List DictEntry, ∃ e, (putL name hsh (.str name t) v es).find? (·.key.isStr name) = some e ∧ e.val = v := by
    intro es
    induction es with
    | nil =>
      refine ⟨⟨hsh, .str name t, v⟩, ?_, rfl⟩
      have : (Value.str name t).isStr name = true := by simp [Value.isStr]
      simp only [putL, List.find?_cons, this]
    | cons e r ih =>
      unfold putL
      split
      · rename_i h
        exact ⟨⟨e.hash, e.key, v⟩, by rw [List.find?_cons]; simp only [h], rfl⟩
      · rename_i h
        obtain ⟨e', h1, h2⟩ := ih
        refine ⟨e', ?_, h2⟩
        rw [List.find?_cons]
        have : e.key.isStr name = false := by simpa using h
        simp only [this]
        exact h1
  intro es
  obtain ⟨e, h1, h2⟩ := key es
  unfold getL
  rw [h1]
  dsimp only
  rw [h2]
theorem isStr_other {name m : Str} (h : name ≠ m) {k : Value} (e : k.isStr name = true) : k.isStr m = false := by
  cases k with
  | str x t =>
    have h1 : x = name := by simpa [Value.isStr] using e
    subst h1
    simpa [Value.isStr] using h
  | _ => simp [Value.isStr] at e
theorem getL_put_other {name m : Str} (h : name ≠ m) (hsh : Int) (t : Tok) (v : Value) (es : List DictEntry) : getL m (putL name hsh (.str name t) v es) = getL m es := by
  have key : ∀ es : List DictEntry, (((putL name hsh (.str name t) v es).find? (·.key.isStr m)).map (·.val) = (es.find? (·.key.isStr m)).map (·.val)) ∧ ((putL name hsh (.str name t) v es).any (·.refKey) = es.any (·.refKey)) := by
    intro es
    induction es with
    | nil =>
      have h1 : (Value.str name t).isStr m = false := isStr_other h (by simp [Value.isStr])
      constructor
      · simp [putL, h1]
      · simp [putL, DictEntry.refKey]
    | cons e r ih =>
      unfold putL
      split
      · rename_i hk
        have h1 := isStr_other h hk
        constructor
        · simp [h1]
        · simp [DictEntry.refKey]
      · constructor
        · rw [List.find?_cons, List.find?_cons]
          cases e.key.isStr m <;> simp [ih.1]
        · simp [ih.2]
  obtain ⟨h1, h2⟩ := key es
  unfold getL
  rw [h2]
  generalize List.find? (fun x => x.key.isStr m) (putL name hsh (Value.str name t) v es) = a at h1
  generalize List.find? (fun x => x.key.isStr m) es = b at h1
  cases a <;> cases b <;> simp_all
theorem putL_len (name : Str) (hsh : Int) (key v : Value) : ∀ es : List DictEntry, (putL name hsh key v es).length ≤ es.length + 1 := by
  intro es
  induction es with
  | nil => simp [putL]
  | cons e r ih =>
    unfold putL
    split
    · simp
    · simp only [List.length_cons]; omega

/-- all of a heap's objects but two -/
noncomputable def others (h : Heap) (L D : Addr) : List (Addr × Obj) := (List.range h.objs.size).filterMap fun b => if b = L ∨ b = D then none else (h.get? b).map fun o => (b, o)
theorem others_mem {h : Heap} {L D : Addr} {p : Addr × Obj} : p ∈ others h L D ↔ h.get? p.1 = some p.2 ∧ p.1 ≠ L ∧ p.1 ≠ D := by
  unfold others
  rw [List.mem_filterMap]
  constructor
  · rintro ⟨b, hb, e⟩
    split at e
    · cases e
    · rename_i z
      obtain ⟨o, ho, rfl⟩ := Option.map_eq_some_iff.mp e
      rw [not_or] at z
      exact ⟨ho, z.1, z.2⟩
  · rintro ⟨h1, h2, h3⟩
    refine ⟨p.1, List.mem_range.mpr (Heap.lt_size h1), ?_⟩
    rw [if_neg (by rintro (z | z); exact h2 z; exact h3 z), h1]
    rfl

section
variable {W : Wd} {K : Frag} {C : Addr} {d : Nat} {σ : Vars} {β β' : Bk} {A : Around} {env : Env} {O : List (String × Addr)} {M : List Addr} {ba : Option Addr} {s : Shared} {g : Fz} {N : List Addr}

/-- the object's own dict changes -/
theorem Act.poke {x : String} {X D : Addr} {fields fields' : List (String × PyData)} {free free' : List String} (t : Act W d A env σ O M ba β s g N) (hx : ∃ l, (⟨x, l, .fz (.instAt X D C fields free)⟩ : Var) ∈ σ) (hp : ∀ v ∈ σ, v.name = x ∨ Plain v.slot) (hD : D ∉ M) (h0 : W.h0.get? D = none)
    {h' : Heap} {tk : Nat} {es' : List DictEntry} {n' : Nat} {mL : Str → Option Value} (nL : s.heap.Ns env.locals mL) (nL' : h'.Ns env.locals mL) (keep : ∀ b o, b ≠ env.locals → b ≠ D → s.heap.get? b = some o → h'.get? b = some o) (hd : h'.get? D = some (dictOf es' n')) {od : Obj} (ho : s.heap.get? D = some od) (hod : ∃ es n, od.data = .dict es n)
    (hlen : es'.length ≤ fields'.length) (hf : ∀ p ∈ fields', ∃ v, getL (Str.ofString p.1) es' = some (some v) ∧ VR (frz s.heap M) v p.2) (hfr : ∀ m ∈ free', getL (Str.ofString m) es' = some none) :
    Act W d A env (σ.put x (.fz (.instAt X D C fields' free'))) O M ba β { s with heap := h', toks := tk } (fun b => if b = D then some (dictOf es' n') else g b) N := by
  have hDL : env.locals ≠ D := fun z => hD (z ▸ t.st.lm)
  have kM : ∀ b o, frz s.heap M b = some o → b ≠ D → frz h' M b = some o := fun b o e hb => by
    obtain ⟨p, q⟩ := frz_some.mp e
    exact frz_some.mpr ⟨p, keep b o (fun z => p (z ▸ t.st.lm)) hb q⟩
  have koff : ∀ b o, frz s.heap M b = some o → (∀ es n, o.data ≠ .dict es n) → frz h' M b = some o := fun b o e hn => kM b o e fun z => by
    subst z
    have := (frz_some.mp e).2
    rw [ho] at this
    obtain ⟨es, n, hod⟩ := hod
    exact hn es n (by cases this; exact hod)
  have ns' : ∀ {m}, s.heap.Ns env.locals m → h'.Ns env.locals m := fun {m} n => by
    have e : m = mL := by
      obtain ⟨o, es, ep, e, d, _, f⟩ := n
      obtain ⟨o', es', ep', e', d', _, f'⟩ := nL
      rw [e] at e'; cases e'; rw [d] at d'; cases d'
      funext y; rw [← f, ← f']
    rw [e]; exact nL'
  have cell' : ∀ {c w}, s.heap.IsCell c w → h'.IsCell c w := fun {c w} y => by
    obtain ⟨o, e, dd⟩ := id y
    exact ⟨o, keep c o (fun z => ns_not_cell nL (z ▸ y)) (fun z => by
      subst z; rw [ho] at e; cases e
      obtain ⟨es, n, hod⟩ := hod
      rw [hod] at dd; cases dd) e, dd⟩
  have has : ∀ {y v l}, Has env s.heap y v l → Has env h' y v l := fun {y v l} z => by
    cases l with
    | loc => obtain ⟨m, n, e⟩ := z; exact ⟨m, ns' n, e⟩
    | cell => obtain ⟨c, e, z⟩ := z; exact ⟨c, e, cell' z⟩
    | free => obtain ⟨c, e, z⟩ := z; exact ⟨c, e, cell' z⟩
  have co' : Co W d A M ba β { s with heap := h', toks := tk } := ⟨t.st.co.hand, t.st.co.room, t.st.co.units,
    fun b o e => ⟨keep b o (fun z => (t.st.co.base b o e).2 (z ▸ t.st.lm)) (fun z => by rw [z, h0] at e; cases e) (t.st.co.base b o e).1, (t.st.co.base b o e).2⟩,
    fun m hm => by
      obtain ⟨o, e⟩ := t.st.co.live m hm
      by_cases z : m = env.locals
      · subst z; obtain ⟨o', _, _, e', _⟩ := nL'; exact ⟨o', e'⟩
      · exact ⟨o, keep m o z (fun z => hD (z ▸ hm)) e⟩,
    t.st.co.book.at fun b e o e' => keep b o (fun z => t.st.apart (z ▸ e)) (fun z => by subst e; subst z; exact hD t.st.co.ba_mem) e'⟩
  have par : ∀ v ∈ σ.put x (.fz (.instAt X D C fields' free')), v ∈ σ ∨ ∃ u ∈ σ, u.name = x ∧ v = ⟨x, u.at_, .fz (.instAt X D C fields' free')⟩ := fun v hv => by
    rcases Vars.mem_put hv with h | ⟨h, _⟩
    · exact .inr h
    · exact .inl h
  refine ⟨⟨co', t.st.kind, t.st.glob, t.st.blt, t.st.apart, t.st.lm, ⟨mL, nL'⟩, t.st.cm, fun y c hc => let ⟨w, z⟩ := t.st.cc y c hc; ⟨w, cell' z⟩, t.st.cinj, fun v hv => ?_, fun v hv => ?_⟩, fun b o e => ?_, ?_, fun y c hc => ?_, fun y a ha => ?_, fun a e => ?_, t.nm, t.on, t.oinj, t.om, fun b o e hb => ?_⟩
  · rcases Vars.mem_put hv with ⟨u, hu, e, rfl⟩ | ⟨hu, _⟩
    · have := t.st.names u hu; rw [e] at this; exact this
    · exact t.st.names v hu
  · rcases Vars.mem_put hv with ⟨⟨un, ul, us⟩, hu, e, rfl⟩ | ⟨hu, hne⟩
    · cases e
      obtain ⟨l, hx⟩ := hx
      have y : SlotOk env s.heap M ba O un l (.fz (.instAt X D C fields free)) := t.st.vars _ hx
      have y2 : SlotOk env s.heap M ba O un ul us := t.st.vars _ hu
      cases y with
      | fz ka hb hc =>
        cases hc with
        | instAt ga gb gc gd ge =>
          obtain ⟨k2, h2⟩ := kind_same ka hb y2
          refine .fz k2 (has h2) ?_
          refine .instAt (kM _ _ ga fun z => ?_) (frz_some.mpr ⟨hD, hd⟩) hlen (fun p hp => ?_) hfr
          · have := (frz_some.mp ga).2
            rw [z, ho] at this
            obtain ⟨es, n, hod⟩ := hod
            cases this; cases hod
          · obtain ⟨w, h1, h2⟩ := hf p hp
            exact ⟨w, h1, h2.off koff⟩
    · obtain ⟨vn, vl, vs⟩ := v
      have y : SlotOk env s.heap M ba O vn vl vs := t.st.vars _ hu
      show SlotOk env h' M ba O vn vl vs
      have pl : Plain vs := (hp _ hu).resolve_left hne
      cases y with
      | unb a => exact .unb a
      | fz a b c =>
        cases pl with
        | dat => exact .fz a (has b) (.d (c.out.off koff))
        | rng => cases c with | rng c => exact .fz a (has b) (.rng (koff _ _ c (by intro _ _ z; cases z)))
      | own a b c d e f => exact .own a (has b) c d (keep _ _ (fun z => ns_not_list nL (z ▸ e)) (fun z => hD (z ▸ d)) e) (f.off koff)
      | glob a => exact .glob a
  · split at e
    · rename_i z; rw [z, ← e]; exact hd
    · rename_i z; exact keep b o (fun z => by rw [z, t.gL] at e; cases e) z (t.keep b o e)
  · rw [if_neg hDL]; exact t.gL
  · rw [if_neg fun z => hD (by rw [← z]; exact t.st.cm y c hc)]; exact t.gc y c hc
  · rw [if_neg fun z => hD (by rw [← z]; exact t.om y a ha)]; exact t.go y a ha
  · rw [if_neg fun z => hD (by rw [← z]; subst e; exact t.st.co.ba_mem)]; exact t.gb a e
  · split at e
    · rename_i z; exact absurd (z ▸ hb) hD
    · exact t.gm b o e hb
end
end
section
set_option maxRecDepth 20000

section
variable {W : Wd} {K : Frag} {C : Addr} {d : Nat} {σ : Vars} {β β' : Bk} {A : Around} {env : Env} {O : List (String × Addr)} {M : List Addr} {ba : Option Addr} {s : Shared} {g : Fz} {N : List Addr}

theorem empty_get (b : Addr) : (({} : Heap).get? b) = none := by
  unfold Heap.get?
  simp

theorem wp_setAttr {X D : Addr} {es : List DictEntry} {n : Nat} {a : String} {v : Value} {mL : Str → Option Value} {E : Value → Shared → Prop} {Q : Unit → Shared → Prop} (G : GCls W K C) (c : Co W d A M ba β s) (I : InstAt s.heap X (instObj C D) C (some (dictOf es n))) (nL : s.heap.Ns env.locals mL) (hDL : D ≠ env.locals)
    (ha : a ∈ (["raw", "n", "nt", "norm", "is_simple"] : List String)) (hg : getL (Str.ofString a) es = some none) (hz : es.length ≤ 99)
    (h : ∀ h', h'.Ns env.locals mL → (∀ b o, b ≠ env.locals → b ≠ D → s.heap.get? b = some o → h'.get? b = some o) → h'.get? D = some (dictOf (putL (Str.ofString a) (PyData.keyHash W.w.params (Str.ofString a)) (.str (Str.ofString a) (s.toks + 1)) v es) (putN (Str.ofString a) es n)) → Q () { s with heap := h', toks := s.toks + 2 }) :
    wpAny W.md A (setAttr (.ref X) (Str.ofString a) v) Q E s := by
  have hD := I.dict
  dsimp only at hD
  have F : Fr ({} : Heap) env.locals s.heap mL := ⟨nL, (fun b o e => by rw [empty_get] at e; cases e), Nat.zero_le _⟩
  have Nw : News ({} : Heap) env.locals s.heap ([] ++ (D, dictOf es n) :: others s.heap env.locals D) := fun p hp => by
    rw [List.nil_append] at hp
    rcases List.mem_cons.mp hp with rfl | hp
    · exact ⟨hD, hDL, empty_get _⟩
    · have := others_mem.mp hp
      exact ⟨this.1, this.2.1, empty_get _⟩
  have hl := putL_len (Str.ofString a) (PyData.keyHash W.w.params (Str.ofString a)) (.str (Str.ofString a) (s.toks + 1)) v es
  refine set_plain (G.at c) I G.setA (osa_dict (s := { s with toks := s.toks + 1 }) F Nw (G.at (c.toks _)) I rfl G.over (G.own a ha).2 G.hasd (by rw [lookIn_dict, hg]; rfl) (fun p hp => by cases hp) (fun p hp => (others_mem.mp hp).2.2) (putName_dict _ _ _ _ _ _) rfl (Nat.le_trans (putL_len _ _ _ _ _) (by omega)) fun h' F' N' => ?_)
  refine h h' F'.ns (fun b o h1 h2 e => ?_) (N' (D, _) (by simp)).1
  exact (N' (b, o) (List.mem_append_right _ (List.mem_cons_of_mem _ (others_mem.mpr ⟨e, h1, h2⟩)))).1

/-- statements of an object's making: the object's dict may change, nothing else that is seen -/
structure XI (W : Wd) (d : Nat) (D : Addr) (σ : Vars) (β : Bk) (ss : List Stmt) (σ' : Vars) (β' : Bk) : Prop where
  run : ∀ A env O M ba s g N E Q, Act W d A env σ O M ba β s g N → (∃ o, g D = some o) → D ∉ N →
    (∀ O M h' tk g', (∃ o, g' D = some o) → (∀ b, b ≠ D → g' b = g b) → Act W d A env σ' O M ba β' { s with heap := h', toks := tk } g' N → Q .next { s with heap := h', toks := tk }) → wpAny W.md A (execs ss env) Q E s
theorem XI.nil {D} : XI W d D σ β [] σ β := .mk fun A env O M ba s g N E Q t h1 h2 q => wpAny_execs_nil (q O M s.heap s.toks g h1 (fun _ _ => rfl) t)
theorem XI.step {D : Addr} {st : Stmt} {ss : List Stmt} {τ υ : Vars} {β1 : Bk} (a : X1 W d σ β st (.next τ) β1) (b : XI W d D τ β1 ss υ β') : XI W d D σ β (st :: ss) υ β' := .mk fun A env O M ba s g N E Q t h1 h2 q => by
  refine wpAny_execs_cons (a.run A env O M ba s g N E _ t fun f O1 M1 h' tk1 t1 r1 => ?_)
  cases r1
  exact b.run A env O1 M1 ba _ g N E Q t1 h1 h2 fun O2 M2 h2 tk2 g2 e1 e2 t2 => q O2 M2 h2 tk2 g2 e1 e2 t2
theorem XI.pre {D : Addr} {ss : List Stmt} {τ υ : Vars} (h : Gh σ τ) (b : XI W d D τ β ss υ β') : XI W d D σ β ss υ β' := .mk fun A env O M ba s g N E Q t h1 h2 q => by
  obtain ⟨O', M', t'⟩ := h W d A env O M ba β s g N t
  exact b.run A env O' M' ba s g N E Q t' h1 h2 q
theorem XI.attr {D X : Addr} {a : String} {l : Loc} {fields : List (String × PyData)} {free free' : List String} {ss : List Stmt} {υ : Vars} {e : Expr} {r : Res} {y : PyData} {np ap pos : Pos} {β1 : Bk} (G : GCls W K C) (h0 : W.h0.get? D = none) (hx : (⟨"self", l, .fz (.instAt X D C fields free)⟩ : Var) ∈ σ)
    (hp : ∀ v ∈ σ, v.name = "self" ∨ Plain v.slot) (ev : Ev W d σ β e r β1) (hr : r.pv = .d y) (ha : a ∈ (["raw", "n", "nt", "norm", "is_simple"] : List String)) (haf : a ∈ free) (hfr : ∀ m ∈ free', m ∈ free ∧ m ≠ a) (hne : ∀ p ∈ fields, p.1 ≠ a) (hz : fields.length ≤ 99)
    (b : XI W d D (σ.put "self" (.fz (.instAt X D C ((a, y) :: fields) free'))) β1 ss υ β')
    (hs : ∀ env, swapsWith e (some (.Attribute (.Name (Str.ofString "self") np) (Str.ofString a) ap)) pos.line env = pure false := by intro _; rfl) :
    XI W d D σ β (.Assign [.Attribute (.Name (Str.ofString "self") np) (Str.ofString a) ap] e pos :: ss) υ β' := .mk fun A env O M ba s g N E Q t h1 h2 q => by
  refine wpAny_execs_cons (plainObj_wpAny_Assign_Attribute ?_ (hs env))
  refine ev.run A env O M ba s E _ t.st fun v h1' tk1 c1 k1 r1 => ?_
  have t1 := t.step c1 k1
  have rv := r1.pr t.st.co
  rw [hr] at rv
  refine (Ev.var (W := W) (d := d) (β := β1) hx (pos := np)).run A env O M ba _ E _ t1.st fun v2 h2' tk2 c2 k2 r2 => ?_
  have t2 := t1.step c2 k2
  cases r2 with
  | val r2 =>
    cases r2 with
    | @instAt _ _ _ es n _ _ ga gb gc gd ge =>
      have I : InstAt h2' X (instObj C D) C (some (dictOf es n)) := ⟨(frz_some.mp ga).2, rfl, rfl, (frz_some.mp gb).2⟩
      have hDM : D ∉ M := (frz_some.mp gb).1
      obtain ⟨mL, nL⟩ := t2.st.ns
      refine wp_setAttr (K := K) (d := d) (β := β1) (M := M) (ba := ba) (n := n) (a := a) G c2 I nL (fun z => hDM (z ▸ t2.st.lm)) ha (ge a haf) (by omega) fun h3 nL' keep hD3 => ?_
      have vf : VR (frz h2' M) v y := (rv.mono (c1.fle k2)).out
      have hlen := putL_len (Str.ofString a) (PyData.keyHash W.w.params (Str.ofString a)) (.str (Str.ofString a) (tk2 + 1)) v es
      have t3 := t2.poke (tk := tk2 + 2) ⟨l, hx⟩ hp hDM h0 nL nL' keep hD3 (frz_some.mp gb).2 ⟨_, _, rfl⟩ (fields' := (a, y) :: fields) (free' := free') (Nat.le_trans (putL_len _ _ _ _ _) (by rw [List.length_cons]; omega)) (fun p hpm => ?_) (fun m hm => ?_)
      · refine b.run A env O M ba _ _ N E Q t3 ⟨_, if_pos rfl⟩ h2 fun O4 M4 h4 tk4 g4 e1 e2 t4 => q O4 M4 h4 tk4 g4 e1 (fun b hb => (e2 b hb).trans (if_neg hb)) t4
      · rcases List.mem_cons.mp hpm with rfl | hpm
        · exact ⟨v, getL_put_same _ _ _ _ _, vf⟩
        · obtain ⟨w, e1, e2⟩ := gd p hpm
          exact ⟨w, (getL_put_other (fun z => hne p hpm (ofString_inj z).symm) _ _ _ _).trans e1, e2⟩
      · exact (getL_put_other (fun z => (hfr m hm).2 (ofString_inj z).symm) _ _ _ _).trans (ge m (hfr m hm).1)
end
end
section
set_option maxRecDepth 20000

section
variable {W : Wd} {K : Frag} {C : Addr} {d : Nat} {σ : Vars} {β β' : Bk}

theorem act_storeLe {A env O M ba s g N} (t : Act W d A env σ O M ba β s g N) {x : String} {l : Loc} {sl : Slot} (hx : (⟨x, l, sl⟩ : Var) ∈ σ) (hl : l ≠ .free) (hg : sl ≠ .glob) {v : Value} {p : PV} (hv : PR (frz s.heap M) ba v p)
    {E : Value → Shared → Prop} {Q : Unit → Shared → Prop} (q : ∀ h' tk, Act W d A env (σ.put x (.fz p)) O M ba β { s with heap := h', toks := tk } g N → Fz.le (frz s.heap M) (frz h' M) → Q () { s with heap := h', toks := tk }) :
    wpAny W.md A (storeName env (Str.ofString x) v) Q E s :=
  wp_store t.st hx hl hg hv fun h1 tk1 a t1 sb pl => by
    have hga : g a = none ∧ a ∈ M := by
      cases l with
      | loc => exact (show a = env.locals from pl) ▸ ⟨t.gL, t.st.lm⟩
      | cell => exact ⟨t.gc _ _ pl, t.st.cm _ _ pl⟩
      | free => exact absurd rfl hl
    exact q h1 tk1 ⟨t1, fun b o e => (sb.2 b (fun z => (by subst z; rw [hga.1] at e; cases e))).trans (t.keep b o e), t.gL, t.gc, t.go, t.gb, t.nm, t.on, t.oinj, t.om, t.gm⟩ fun b o e => by
      obtain ⟨x, y⟩ := frz_some.mp e
      exact frz_some.mpr ⟨x, (sb.2 b fun z => x (z ▸ hga.2)).trans y⟩

theorem X1.swap2 {x y : String} {lx ly : Loc} {sx sy : Slot} {e : Expr} {es : List Expr} {k : Nat} {u v : PyData} {tp pos : Pos} {r : Res} (a : Ev W d σ β e r β') (hr : r.pv = .d (.tuple [u, v])) (hy : (⟨y, ly, sy⟩ : Var) ∈ σ) (hly : ly ≠ .free) (hsy : sy ≠ .glob)
    (hx : (⟨x, lx, sx⟩ : Var) ∈ σ.put y (.fz (.d v))) (hlx : lx ≠ .free) (hsx : sx ≠ .glob)
    (hs : ∀ env, swapsWithSole [.Tuple es k tp] e pos.line env = pure false := by intro _; rfl) (hw : ∀ env, env.scope.kind = .function → env.kindOf (Str.ofString x) = some .local → env.kindOf (Str.ofString y) = some .local → swappedStores [.Tuple es k tp] e env = pure (some [Str.ofString x, Str.ofString y])) (hx0 : ∃ sl, (⟨x, .loc, sl⟩ : Var) ∈ σ ∧ sl ≠ .glob) (hy0 : ∃ sl, (⟨y, .loc, sl⟩ : Var) ∈ σ ∧ sl ≠ .glob) :
    X1 W d σ β (.Assign [.Tuple es k tp] e pos) (.next ((σ.put y (.fz (.d v))).put x (.fz (.d u)))) β' := .mk fun A env O M ba s g N E Q t q => by
  refine Assign_Tuple_swapped (a.run A env O M ba s E _ t.st fun vv h1 tk1 c1 k1 r1 => ?_) (hs env) (hw env t.st.kind (let ⟨_, a, b⟩ := hx0; (t.st.vars _ a).kind b) (let ⟨_, a, b⟩ := hy0; (t.st.vars _ a).kind b))
  have t1 := t.step c1 k1
  have rv := r1.pr t.st.co
  rw [hr] at rv
  obtain ⟨tp, items, rfl, ht, hv⟩ := rv.tuple
  have hv2 : ∃ a b, items.toList = [a, b] ∧ VR (frz h1 M) a u ∧ VR (frz h1 M) b v := by
    generalize items.toList = l at hv
    cases hv with
    | cons p hv =>
      cases hv with
      | cons q hv => cases hv; exact ⟨_, _, rfl, p, q⟩
  obtain ⟨wa, wb, hl, ha, hb⟩ := hv2
  have hsz : items.size = 2 := by rw [← Array.length_toList, hl]; rfl
  show wpAny _ _ (unpackItems (.ref tp) 2 none) _ _ _
  rw [← hsz]
  refine unpackItems_tuple t1.st.co.hand ht fun h2 he => ?_
  have k2 : ∀ b o, h1.get? b = some o → h2.get? b = some o := fun b o e => he b o (Nat.ne_of_lt (Heap.lt_size e)) e
  have c2 : Co W d A M ba β' { s with heap := h2, toks := tk1 } := c1.step tk1 k2
  have t2 : Act W d A env σ O M ba β' { s with heap := h2, toks := tk1 } g N := t1.step c2 (Kp.of_all k2)
  rw [hl]
  show wpAny _ _ (assignInOrder [bindName env (Str.ofString y), bindName env (Str.ofString x)] [wb, wa]) _ _ _
  have le := c1.fle (Kp.of_all (ba := ba) k2)
  refine assignInOrder_cons (wpAny_bindName (act_storeLe t2 hy hly hsy (.d (hb.mono le)) fun h3 tk3 t3 le3 => ?_))
  refine assignInOrder_cons (wpAny_bindName ?_)
  exact act_store t3 hx hlx hsx (.d ((ha.mono le).mono le3)) fun h4 tk4 t4 => assignInOrder_nil (q _ O M h4 tk4 t4 .next)

theorem X1.assign3 {x y z : String} {l1 l2 l3 : Loc} {s1 s2 s3 : Slot} {e : Expr} {u : PyData} {p1 p2 p3 pos : Pos} {r : Res} (a : Ev W d σ β e r β') (hr : r.pv = .d u) (hx : (⟨x, l1, s1⟩ : Var) ∈ σ) (h1l : l1 ≠ .free) (h1g : s1 ≠ .glob)
    (hy : (⟨y, l2, s2⟩ : Var) ∈ σ.put x (.fz (.d u))) (h2l : l2 ≠ .free) (h2g : s2 ≠ .glob) (hz : (⟨z, l3, s3⟩ : Var) ∈ (σ.put x (.fz (.d u))).put y (.fz (.d u))) (h3l : l3 ≠ .free) (h3g : s3 ≠ .glob)
    (hw : ∀ env, swappedStores [.Name (Str.ofString x) p1, .Name (Str.ofString y) p2, .Name (Str.ofString z) p3] e env = pure none := by intro _; rfl) :
    X1 W d σ β (.Assign [.Name (Str.ofString x) p1, .Name (Str.ofString y) p2, .Name (Str.ofString z) p3] e pos) (.next (((σ.put x (.fz (.d u))).put y (.fz (.d u))).put z (.fz (.d u)))) β' := .mk fun A env O M ba s g N E Q t q => by
  refine wpAny_Assign_three (a.run A env O M ba s E _ t.st fun vv h1 tk1 c1 k1 r1 => ?_) rfl (hw env)
  have t1 := t.step c1 k1
  have rv := r1.pr t.st.co
  rw [hr] at rv
  refine wpAny_assign_Name (act_storeLe t1 hx h1l h1g rv fun h2 tk2 t2 le2 => ?_)
  refine wpAny_assign_Name (act_storeLe t2 hy h2l h2g (rv.mono le2) fun h3 tk3 t3 le3 => ?_)
  exact wpAny_assign_Name (act_storeLe t3 hz h3l h3g ((rv.mono le2).mono le3) fun h4 tk4 t4 le4 => q _ O M h4 tk4 t4 .next)

theorem tc_under (C : Addr) (l : List Value) (A : Around) : (A.under (.builtin "type.__call__" ⟨.ref C :: l, []⟩)).handled = A.handled ∧ (A.under (.builtin "type.__call__" ⟨.ref C :: l, []⟩)).depth ≤ A.depth + 1 ∧ (A.under (.builtin "type.__call__" ⟨.ref C :: l, []⟩)).units = A.units + 1 := by
  refine ⟨rfl, ?_, ?_⟩
  · show A.depth + Code.weight (.builtin "type.__call__" ⟨.ref C :: l, []⟩) ≤ A.depth + 1
    have : Code.weight (.builtin "type.__call__" ⟨.ref C :: l, []⟩) = 1 := by rfl
    omega
  · show A.units + Code.cUnits (.builtin "type.__call__" ⟨.ref C :: l, []⟩) = A.units + 1
    rfl

theorem Op.make {X0 : List String} {ws : Str} {fields : List (String × PyData)} {free free0 : List String} {σ0 τ : Addr → Addr → Vars} (G : GCls W K C) (hfv : ∀ X D, FV (fscope 1 ctops).names (["self", "ws"].zip [.instAt X D C [] free0, .d (.str ws)]) (σ0 X D))
    (b : ∀ X D, W.h0.get? D = none → XI W d D (σ0 X D) β (fbody 1 ctops) (τ X D) β) (hτ : ∀ X D, ∃ l, (⟨"self", l, .fz (.instAt X D C fields free)⟩ : Var) ∈ τ X D) :
    Op W (d + 2) (fun vs => call (.ref C) vs) [.d (.str ws)] β (.val (.inst C fields free)) β := fun A M ba s vs E Q c hv q => by
  obtain ⟨v, rfl, pv⟩ := hv.one
  obtain ⟨f, hi, ht, hdef⟩ := G.init
  obtain ⟨o, fd, ho, hdat, hbody, hsc, hg, hb, hclo, hcd, hbind⟩ := hdef.ex
  obtain ⟨h, gn, dr, tk, os⟩ := s
  have X := G.at c
  refine wpAny_call (make_core (makes_of X G.makes) (looks_findIn X hi) (fun self => bind_fn X self ht) (.inl rfl) ?_)
  have hw := tc_under C [v] A
  generalize A.under (.builtin "type.__call__" ⟨.ref C :: [v], []⟩) = A1 at hw ⊢
  -- the object is laid
  obtain ⟨ca, ka, na, sa, _⟩ := push_new c emptyDict rfl tk
  obtain ⟨cb, kb, nb, sb, _⟩ := push_new ca (instObj C h.objs.size) rfl tk
  have hsz : (h.push emptyDict).objs.size = h.objs.size + 1 := Heap.size_push ..
  dsimp only at ca cb ka kb na nb sa sb
  rw [hsz] at nb sb
  have keepA : ∀ b o, h.get? b = some o → ((h.push emptyDict).push (instObj C h.objs.size)).get? b = some o := fun b o e => Heap.get?_push_of_some _ (Heap.get?_push_of_some _ e)
  have hDget : ((h.push emptyDict).push (instObj C h.objs.size)).get? h.objs.size = some emptyDict := Heap.get?_push_of_some _ sa
  have hDM : h.objs.size ∉ M := c.fresh na
  have hXM : h.objs.size + 1 ∉ M := fun hm => by
    obtain ⟨o, e⟩ := ca.live _ hm; rw [nb] at e; cases e
  have hD0 : W.h0.get? h.objs.size = none := by
    cases e : W.h0.get? h.objs.size with
    | none => rfl
    | some o => have := (c.base _ o e).1; rw [na] at this; cases this
  have c1 : Co W (d + 1) A1 M ba β ⟨(h.push emptyDict).push (instObj C h.objs.size), gn, dr, tk, os⟩ := ⟨hw.1.trans c.hand, by have := c.room; have := hw.2.1; omega, by have := c.units; have := hw.2.2; omega, cb.base, cb.live, cb.book⟩
  have pv1 := pv.mono ((c.fle ka).trans (ca.fle kb))
  have hargs : PRs (frz ((h.push emptyDict).push (instObj C h.objs.size)) M) ba [.ref (h.objs.size + 1), v] [.instAt (h.objs.size + 1) h.objs.size C [] free0, .d (.str ws)] := by
    refine .cons (.instAt (es := []) (n := 0) (frz_some.mpr ⟨hXM, sb⟩) (frz_some.mpr ⟨hDM, hDget⟩) (Nat.zero_le _) (fun p hp => by cases hp) fun m _ => rfl) (.cons pv1 .nil)
  have hfv' : FV fd.scope.names (["self", "ws"].zip [.instAt (h.objs.size + 1) h.objs.size C [] free0, .d (.str ws)]) (σ0 (h.objs.size + 1) h.objs.size) := by rw [hsc]; exact hfv _ _
  have nodup : (((["self", "ws"].map Str.ofString).zip [Value.ref (h.objs.size + 1), v]).map (·.1)) = ["self", "ws"].map Str.ofString := rfl
  have kinds : ∀ b ∈ (["self", "ws"].map Str.ofString).zip [Value.ref (h.objs.size + 1), v], fd.scope.names.lookup b.1 = some .local ∨ (fd.scope.names.lookup b.1 = some .cell ∧ ((cellsFrom (((h.push emptyDict).push (instObj C h.objs.size)).objs.size + 1) fd.scope.names []).lookup b.1).isSome = true) := fun b hb' => by
    rw [hsc]
    have hm : b.1 ∈ ["self", "ws"].map Str.ofString := nodup ▸ List.mem_map_of_mem hb'
    obtain ⟨x, hx, e⟩ := List.mem_map.mp hm
    have := List.all_eq_true.mp hdef.par x hx
    rcases Bool.or_eq_true_iff.mp this with k | k
    · exact .inl (e ▸ kAll_lookup k)
    · exact .inr ⟨e ▸ kAll_lookup k, cellsFrom_some _ _ _ (.inl (e ▸ kAll_lookup k))⟩
  refine codeAny_call_cells (s := ⟨(h.push emptyDict).push (instObj C h.objs.size), gn, dr, tk, os⟩) (by have := c1.room; omega) (c1.base _ _ ho).1 hdat (W.nolim.keeps fun b o e => (c1.base b o e).1) (hcd.keeps fun b o e => (c1.base b o e).1) hbody (hbind _ rfl) hclo kinds (fun s₁ y => ?_) (by rw [hsc]; exact hdef.co) (by rw [hsc]; exact hdef.gen) (by rw [hsc]; exact hdef.kind)
  obtain ⟨M', h₁, tk', rfl, t⟩ := enter c1 hargs rfl (by decide) hfv' (by rw [hsc]; exact hdef.kind) hg hb y
  have hbaD : ba ≠ some h.objs.size := fun z => hDM (by subst z; exact c.ba_mem)
  refine (b _ _ hD0).run _ _ [] M' ba _ _ M _ _ t ⟨emptyDict, by rw [if_neg hbaD]; exact hDget⟩ hDM fun O2 M2 h2 tk2 g' e1 e2 t2 => ?_
  refine ⟨rfl, ?_⟩
  have cc := t2.st.co.sub t2.nm fun a e => by subst e; exact c.ba_mem
  obtain ⟨l, hself⟩ := hτ (h.objs.size + 1) h.objs.size
  refine q _ h2 tk2 ⟨c.hand, c.room, c.units, cc.base, cc.live, cc.book⟩ (fun b o e n => t2.keep b o ?_) (.val ?_)
  · have hbD : b ≠ h.objs.size := fun z => by rw [z] at e; exact absurd (na ▸ e) (by simp)
    rw [e2 b hbD, if_neg n]
    exact keepA b o e
  · have sl : SlotOk _ h2 M2 ba O2 "self" l (.fz (.instAt (h.objs.size + 1) h.objs.size C fields free)) := t2.st.vars _ hself
    cases sl with
    | fz ka hb hc =>
      have := (hc.anon).mono (frz_sub t2.nm)
      cases hc
      exact this
end
end
section
set_option maxRecDepth 20000

structure Wsp where
  count : List Nat
  b : Nat
  n : Nat
  nt : Nat
noncomputable def padC (count : List Nat) (b : Nat) : List Nat := if count.length ≤ b then count ++ List.replicate (b - count.length + 1) 0 else count
noncomputable def Wsp.space (s : Wsp) : Wsp := ⟨s.count, s.b + 1, s.n + 1, s.nt⟩
noncomputable def Wsp.tab (s : Wsp) : Wsp := ⟨(padC s.count s.b).set s.b ((padC s.count s.b).getD s.b 0 + 1), 0, s.n + 1, s.nt + 1⟩
noncomputable def wspRun : List Nat → Wsp → Wsp
  | [], s => s
  | c :: r, s => if c = 32 then wspRun r s.space else if c = 9 then wspRun r s.tab else s
theorem padC_lt (count : List Nat) (b : Nat) : b < (padC count b).length := by
  unfold padC
  split
  · rw [List.length_append, List.length_replicate]; omega
  · omega
theorem padC_len (count : List Nat) (b : Nat) : (padC count b).length ≤ max count.length (b + 1) := by
  unfold padC
  split
  · rw [List.length_append, List.length_replicate]; omega
  · omega

noncomputable abbrev cInts (l : List Nat) : List PyData := l.map fun (k : Nat) => PyData.int (k : Int)
noncomputable abbrev inV (self ws S T count b n nt ch : Slot) : Vars := [⟨"self", .loc, self⟩, ⟨"ws", .loc, ws⟩, ⟨"S", .loc, S⟩, ⟨"T", .loc, T⟩, ⟨"count", .loc, count⟩, ⟨"b", .loc, b⟩, ⟨"n", .loc, n⟩, ⟨"nt", .loc, nt⟩, ⟨"ch", .loc, ch⟩, ⟨"Whitespace", .loc, .glob⟩, ⟨"len", .loc, .glob⟩, ⟨"tuple", .loc, .glob⟩]
noncomputable abbrev inW (self : Slot) (ws : Str) (s : Wsp) (ch : Slot) : Vars := inV self (sStr ws) (sStr " ") (sStr "\t") (.own (cInts s.count)) (sInt s.b) (sInt s.n) (sInt s.nt) ch
noncomputable def ifElse : Stmt → List Stmt
  | .If _ _ e _ => e
  | _ => []
theorem chr_eq (c k : Nat) : (((⟨#[c]⟩ : Str)) == (⟨#[k]⟩ : Str)) = decide (c = k) := by
  rw [Bool.eq_iff_iff, beq_iff_eq, decide_eq_true_eq]
  constructor
  · intro h; injection h with h; simpa using h
  · rintro rfl; rfl
theorem flat_cints (l : List Nat) : ∀ x ∈ cInts l, Flat x := fun x hx => by
  obtain ⟨k, _, rfl⟩ := List.mem_map.mp hx; exact .int _

section
variable {W : Wd} {β : Bk} {d : Nat}
noncomputable abbrev inFor : Stmt := sAt (fbody 1 ctops) 4
noncomputable abbrev inIf : Stmt := sAt (forBody inFor) 0
noncomputable abbrev inElif : Stmt := sAt (ifElse inIf) 0

theorem in_test1 {self : Slot} {ws : Str} {s : Wsp} {c : Nat} : Et W d (inW self ws s (sStr ⟨#[c]⟩)) β (ifTest inIf) (decide (c = 32)) β := by
  refine Et.cast (Et.cmpk (.str ⟨#[c]⟩) (.str " ") (Ev.var (by (repeat (first | exact List.mem_cons_self | refine List.mem_cons_of_mem _ ?_)))) (Ev.var (by (repeat (first | exact List.mem_cons_self | refine List.mem_cons_of_mem _ ?_)))) Op.eqs) (chr_eq c 32)
theorem in_test2 {self : Slot} {ws : Str} {s : Wsp} {c : Nat} : Et W d (inW self ws s (sStr ⟨#[c]⟩)) β (ifTest inElif) (decide (c = 9)) β := by
  refine Et.cast (Et.cmpk (.str ⟨#[c]⟩) (.str "\t") (Ev.var (by (repeat (first | exact List.mem_cons_self | refine List.mem_cons_of_mem _ ?_)))) (Ev.var (by (repeat (first | exact List.mem_cons_self | refine List.mem_cons_of_mem _ ?_)))) Op.eqs) (chr_eq c 9)
theorem in_space {self : Slot} {ws : Str} {s : Wsp} {c : Nat} : Ex W d (inW self ws s (sStr ⟨#[c]⟩)) β (ifBody inIf) (.next (inW self ws s.space (sStr ⟨#[c]⟩))) β := by
  refine Ex.consk (inV self (sStr ws) (sStr " ") (sStr "\t") (.own (cInts s.count)) (sInt s.b) (sInt (s.n + 1)) (sInt s.nt) (sStr ⟨#[c]⟩)) (X1.assign (r := .int ((s.n + 1 : Nat) : Int)) ?_ (by (repeat (first | exact List.mem_cons_self | refine List.mem_cons_of_mem _ ?_)))) ?_
  · refine Ev.cast (Ev.bink (.int (s.n : Int)) (.int 1) (Ev.var (by (repeat (first | exact List.mem_cons_self | refine List.mem_cons_of_mem _ ?_)))) Ev.int Op.add) (by simp)
  refine Ex.consk _ (X1.assign (r := .int ((s.b + 1 : Nat) : Int)) ?_ (by (repeat (first | exact List.mem_cons_self | refine List.mem_cons_of_mem _ ?_)))) Ex.nil
  refine Ev.cast (Ev.bink (.int (s.b : Int)) (.int 1) (Ev.var (by (repeat (first | exact List.mem_cons_self | refine List.mem_cons_of_mem _ ?_)))) Ev.int Op.add) (by simp)

theorem in_len {self : Slot} {ws : Str} {b n nt ch : Slot} {l : List Nat} {pos np ap : Pos} (B : Blt W) (h : l.length ≤ 2 ^ 20) : Ev W d (inV self (sStr ws) (sStr " ") (sStr "\t") (.fz (.d (dInts l))) b n nt ch) β (.Call (.Name (Str.ofString "len") np) [.Name (Str.ofString "count") ap] [] pos) (.int (l.length : Int)) β := by
  refine Ev.cast (Ev.callk (ps := [.d (dInts l)]) (by (repeat (first | exact List.mem_cons_self | refine List.mem_cons_of_mem _ ?_))) (Evs.consk (.dat (dInts l)) (Ev.var (by (repeat (first | exact List.mem_cons_self | refine List.mem_cons_of_mem _ ?_)))) Evs.nil) (Fn.b B.len (Op.lenl (by simp; omega)))) ?_
  show Res.int _ = Res.int _
  rw [List.length_map]
theorem in_pad {self : Slot} {ws : Str} {s : Wsp} {n nt ch : Slot} (B : Blt W) (h : s.count.length ≤ 2 ^ 19) (hb : s.b ≤ 2 ^ 19) :
    X1 W d (inV self (sStr ws) (sStr " ") (sStr "\t") (.own (cInts s.count)) (sInt s.b) n nt ch) β (sAt (ifBody inElif) 2) (.next (inV self (sStr ws) (sStr " ") (sStr "\t") (.own (cInts (padC s.count s.b))) (sInt s.b) n nt ch)) β := by
  refine X1.ite (b := decide (s.count.length ≤ s.b)) (β1 := β) ?_ ?_ ?_
  · refine Et.peek ?_
    show Et W d (inV self.peek (sStr ws) (sStr " ") (sStr "\t") (.fz (.d (dInts s.count))) (sInt s.b) n.peek nt.peek ch.peek) β _ _ β
    refine Et.cast (Et.cmpk (.int (s.b : Int)) (.int (s.count.length : Int)) (Ev.var (by (repeat (first | exact List.mem_cons_self | refine List.mem_cons_of_mem _ ?_)))) (in_len (l := s.count) B (by omega)) Op.ge) ?_
    rw [Bool.eq_iff_iff, decide_eq_true_eq, decide_eq_true_eq]; omega
  · intro hle
    have hle : s.count.length ≤ s.b := by simpa using hle
    have hp : cInts (padC s.count s.b) = cInts s.count ++ (List.replicate ((s.b : Int) - (s.count.length : Int) + 1).toNat [PyData.int 0]).flatten := by
      unfold padC
      rw [if_pos hle, show cInts (s.count ++ List.replicate (s.b - s.count.length + 1) 0) = cInts s.count ++ cInts (List.replicate (s.b - s.count.length + 1) 0) from List.map_append]
      congr 1
      rw [show ((s.b : Int) - (s.count.length : Int) + 1).toNat = s.b - s.count.length + 1 by omega, show cInts (List.replicate (s.b - s.count.length + 1) 0) = List.replicate (s.b - s.count.length + 1) (PyData.int 0) from List.map_replicate ..]
      generalize s.b - s.count.length + 1 = k
      induction k with
      | zero => rfl
      | succ k ih => rw [List.replicate_succ, List.replicate_succ, List.flatten_cons, ih]; rfl
    refine Ex.consk _ (X1.assignNew (xs := cInts (padC s.count s.b)) ?_ (by (repeat (first | exact List.mem_cons_self | refine List.mem_cons_of_mem _ ?_)))) Ex.nil
    refine Ev.peek ?_ (.new (flat_cints _))
    show Ev W d (inV self.peek (sStr ws) (sStr " ") (sStr "\t") (.fz (.d (dInts s.count))) (sInt s.b) n.peek nt.peek ch.peek) β _ _ β
    rw [hp]
    refine Ev.bink (.dat (dInts s.count)) (.new (List.replicate ((s.b : Int) - (s.count.length : Int) + 1).toNat [PyData.int 0]).flatten) (Ev.var (by (repeat (first | exact List.mem_cons_self | refine List.mem_cons_of_mem _ ?_)))) ?_ (Op.addl (by simp; omega))
    refine Ev.bink (.new [PyData.int 0]) (.int ((s.b : Int) - (s.count.length : Int) + 1)) ?_ ?_ (Op.mull (by omega) (by omega) (by simp; omega))
    · exact Ev.listd (Evs.consk (.int 0) Ev.int Evs.nil) rfl (by decide)
    · refine Ev.bink (.int ((s.b : Int) - (s.count.length : Int))) (.int 1) ?_ Ev.int Op.add
      exact Ev.bink (.int (s.b : Int)) (.int (s.count.length : Int)) (Ev.var (by (repeat (first | exact List.mem_cons_self | refine List.mem_cons_of_mem _ ?_)))) (in_len (l := s.count) B (by omega)) Op.sub
  · intro hle
    have hle : ¬ s.count.length ≤ s.b := by simpa using hle
    have : padC s.count s.b = s.count := by unfold padC; rw [if_neg hle]
    rw [this]
    exact Ex.nil
end
section
variable {W : Wd} {β : Bk} {d : Nat}
theorem in_tab {self : Slot} {ws : Str} {s : Wsp} {c : Nat} (B : Blt W) (h : s.count.length ≤ 2 ^ 19) (hb : s.b + 1 ≤ 2 ^ 19) : Ex W d (inW self ws s (sStr ⟨#[c]⟩)) β (ifBody inElif) (.next (inW self ws s.tab (sStr ⟨#[c]⟩))) β := by
  refine Ex.consk (inV self (sStr ws) (sStr " ") (sStr "\t") (.own (cInts s.count)) (sInt s.b) (sInt (s.n + 1)) (sInt s.nt) (sStr ⟨#[c]⟩)) (X1.assign (r := .int ((s.n + 1 : Nat) : Int)) ?_ (by (repeat (first | exact List.mem_cons_self | refine List.mem_cons_of_mem _ ?_)))) ?_
  · refine Ev.cast (Ev.bink (.int (s.n : Int)) (.int 1) (Ev.var (by (repeat (first | exact List.mem_cons_self | refine List.mem_cons_of_mem _ ?_)))) Ev.int Op.add) (by simp)
  refine Ex.consk (inV self (sStr ws) (sStr " ") (sStr "\t") (.own (cInts s.count)) (sInt s.b) (sInt (s.n + 1)) (sInt (s.nt + 1)) (sStr ⟨#[c]⟩)) (X1.assign (r := .int ((s.nt + 1 : Nat) : Int)) ?_ (by (repeat (first | exact List.mem_cons_self | refine List.mem_cons_of_mem _ ?_)))) ?_
  · refine Ev.cast (Ev.bink (.int (s.nt : Int)) (.int 1) (Ev.var (by (repeat (first | exact List.mem_cons_self | refine List.mem_cons_of_mem _ ?_)))) Ev.int Op.add) (by simp)
  refine Ex.consk (inV self (sStr ws) (sStr " ") (sStr "\t") (.own (cInts (padC s.count s.b))) (sInt s.b) (sInt (s.n + 1)) (sInt (s.nt + 1)) (sStr ⟨#[c]⟩)) (in_pad B h (by omega)) ?_
  have hlt := padC_lt s.count s.b
  have hle := padC_len s.count s.b
  generalize hP : padC s.count s.b = P at hlt hle
  have htab : s.tab = ⟨P.set s.b (P.getD s.b 0 + 1), 0, s.n + 1, s.nt + 1⟩ := by unfold Wsp.tab; rw [hP]
  rw [htab]
  refine Ex.consk (inV self (sStr ws) (sStr " ") (sStr "\t") (.own (cInts (P.set s.b (P.getD s.b 0 + 1)))) (sInt s.b) (sInt (s.n + 1)) (sInt (s.nt + 1)) (sStr ⟨#[c]⟩)) ?_ ?_
  · have hset : cInts (P.set s.b (P.getD s.b 0 + 1)) = (cInts P).set ((s.b : Int)).toNat (.int ((P.getD s.b 0 + 1 : Nat) : Int)) := by
      rw [Int.toNat_natCast, show cInts (P.set s.b (P.getD s.b 0 + 1)) = _ from List.map_set ..]
    rw [hset]
    refine X1.setItem (x := "count") (l := .loc) (xs := cInts P) (q := .int ((P.getD s.b 0 + 1 : Nat) : Int)) (n := (s.b : Int)) (β1 := β) (by (repeat (first | exact List.mem_cons_self | refine List.mem_cons_of_mem _ ?_))) ?_ (Ev.var (by (repeat (first | exact List.mem_cons_self | refine List.mem_cons_of_mem _ ?_)))) (by omega) (by simp; omega) (by simp; omega)
    refine Ev.peek ?_ (.val (.int _))
    show Ev W d (inV self.peek (sStr ws) (sStr " ") (sStr "\t") (.fz (.d (dInts P))) (sInt s.b) (sInt (s.n + 1)) (sInt (s.nt + 1)) (sStr ⟨#[c]⟩)) β _ _ β
    refine Ev.cast (Ev.bink (.int ((P.getD s.b 0 : Nat) : Int)) (.int 1) ?_ Ev.int Op.add) (by simp)
    exact Ev.subk (.dat (dInts P)) (.int (s.b : Int)) (Ev.var (by (repeat (first | exact List.mem_cons_self | refine List.mem_cons_of_mem _ ?_)))) (Ev.var (by (repeat (first | exact List.mem_cons_self | refine List.mem_cons_of_mem _ ?_)))) (Op.item (by omega) (by omega) (at_ints P s.b (by omega) _ rfl))
  exact Ex.consk _ (X1.assign (r := .int ((0 : Nat) : Int)) Ev.int (by (repeat (first | exact List.mem_cons_self | refine List.mem_cons_of_mem _ ?_)))) Ex.nil

theorem in_body {self : Slot} {ws : Str} {s : Wsp} {c : Nat} (B : Blt W) (h : s.count.length ≤ 2 ^ 19) (hb : s.b + 1 ≤ 2 ^ 19) :
    Ex W d (inW self ws s (sStr ⟨#[c]⟩)) β (forBody inFor) (if c = 32 then .next (inW self ws s.space .unb) else if c = 9 then .next (inW self ws s.tab .unb) else .brk (inW self ws s (sStr ⟨#[c]⟩))) β := by
  by_cases h1 : c = 32
  · rw [if_pos h1]
    refine Ex.post (τ := inW self ws s.space (sStr ⟨#[c]⟩)) (Ex.consk _ (X1.ite in_test1 (fun _ => in_space) fun z => ?_) Ex.nil) (Gh.ff (by (repeat (first | exact FF.nil | refine FF.keep ?_ | refine FF.drop ?_ ?_ | simp))))
    rw [decide_eq_true h1] at z; cases z
  · rw [if_neg h1]
    by_cases h2 : c = 9
    · rw [if_pos h2]
      refine Ex.post (τ := inW self ws s.tab (sStr ⟨#[c]⟩)) (Ex.consk _ (X1.ite in_test1 (fun z => ?_) fun z => ?_) Ex.nil) (Gh.ff (by (repeat (first | exact FF.nil | refine FF.keep ?_ | refine FF.drop ?_ ?_ | simp))))
      · rw [decide_eq_false h1] at z; cases z
      · refine Ex.consk _ (X1.ite in_test2 (fun _ => in_tab B h hb) fun z => ?_) Ex.nil
        rw [decide_eq_true h2] at z; cases z
    · rw [if_neg h2]
      refine Ex.brk (X1.ite in_test1 (fun z => ?_) fun z => ?_)
      · rw [decide_eq_false h1] at z; cases z
      · refine Ex.brk (X1.ite in_test2 (fun z => ?_) fun z => Ex.brk X1.break)
        rw [decide_eq_false h2] at z; cases z

theorem in_loop {self : Slot} {ws : Str} (hself : self ≠ .glob) (B : Blt W) : ∀ (l : List Nat) (s : Wsp), s.count.length + l.length ≤ 2 ^ 19 → s.b + l.length + 1 ≤ 2 ^ 19 →
    ∃ fe, ForRun W d (forTarget inFor) (forBody inFor) (inW self ws s .unb) β (l.map fun k => PV.d (.str ⟨#[k]⟩)) fe β ∧ (fe = .done (inW self ws (wspRun l s) .unb) ∨ ∃ ch, fe = .broke (inW self ws (wspRun l s) (sStr ch))) := by
  intro l
  induction l with
  | nil => intro s _ _; exact ⟨_, .nil, .inl rfl⟩
  | cons c l ih =>
    intro s h1 h2
    rw [List.length_cons] at h1 h2
    have body := in_body (W := W) (β := β) (d := d) (self := self) (ws := ws) (s := s) (c := c) B (by omega) (by omega)
    rw [List.map_cons]
    unfold wspRun
    by_cases e1 : c = 32
    · rw [if_pos e1] at body ⊢
      obtain ⟨fe, a, b⟩ := ih s.space (by show s.count.length + _ ≤ _; omega) (by show s.b + 1 + _ + 1 ≤ _; omega)
      exact ⟨fe, .cons (.name (by (repeat (first | exact List.mem_cons_self | refine List.mem_cons_of_mem _ ?_))) (by simp) (by simp)) body a, b⟩
    · rw [if_neg e1] at body ⊢
      by_cases e2 : c = 9
      · rw [if_pos e2] at body ⊢
        have hl : s.tab.count.length ≤ max s.count.length (s.b + 1) := by
          show ((padC s.count s.b).set _ _).length ≤ _
          rw [List.length_set]; exact padC_len _ _
        obtain ⟨fe, a, b⟩ := ih s.tab (by omega) (by show 0 + _ + 1 ≤ _; omega)
        exact ⟨fe, .cons (.name (by (repeat (first | exact List.mem_cons_self | refine List.mem_cons_of_mem _ ?_))) (by simp) (by simp)) body a, b⟩
      · rw [if_neg e2] at body ⊢
        exact ⟨_, .brk (.name (by (repeat (first | exact List.mem_cons_self | refine List.mem_cons_of_mem _ ?_))) (by simp) (by simp)) body, .inr ⟨_, rfl⟩⟩
end
end
section
set_option maxRecDepth 20000

inductive AllP (x : String) : Vars → Prop
  | nil : AllP x []
  | self {l sl r} : AllP x r → AllP x (⟨x, l, sl⟩ :: r)
  | cons {n l sl r} : Plain sl → AllP x r → AllP x (⟨n, l, sl⟩ :: r)
theorem AllP.all {x : String} {σ : Vars} (h : AllP x σ) : ∀ v ∈ σ, v.name = x ∨ Plain v.slot := by
  induction h with
  | nil => intro v hv; cases hv
  | self _ ih => intro v hv; rcases List.mem_cons.mp hv with rfl | hv; exact .inl rfl; exact ih v hv
  | cons p _ ih => intro v hv; rcases List.mem_cons.mp hv with rfl | hv; exact .inr p; exact ih v hv

noncomputable abbrev wspOf (ws : Str) : Wsp := wspRun ws.cps.toList ⟨[], 0, 0, 0⟩
noncomputable abbrev normD (r : Wsp) : PyData := .tuple [.tuple (cInts r.count), .int (r.b : Int)]
noncomputable abbrev wFields (ws : Str) (r : Wsp) : List (String × PyData) := [("is_simple", .bool (decide (r.count.length ≤ 1))), ("norm", normD r), ("nt", .int (r.nt : Int)), ("n", .int (r.n : Int)), ("raw", .str ws)]
noncomputable abbrev wFree : List String := ["longest_run_of_spaces", "indent_level", "not_equal_witness"]
noncomputable abbrev wFree0 : List String := ["is_simple", "norm", "nt", "n", "raw", "longest_run_of_spaces", "indent_level", "not_equal_witness"]
theorem wspRun_len : ∀ (l : List Nat) (s : Wsp), (wspRun l s).count.length ≤ max s.count.length (s.b + l.length + 1) ∧ (wspRun l s).b ≤ s.b + l.length := by
  intro l
  induction l with
  | nil => intro s; exact ⟨by show s.count.length ≤ _; omega, by show s.b ≤ _; omega⟩
  | cons c l ih =>
    intro s
    unfold wspRun
    rw [List.length_cons]
    split
    · have := ih s.space
      have e1 : s.space.count = s.count := rfl
      have e2 : s.space.b = s.b + 1 := rfl
      rw [e1, e2] at this; omega
    · split
      · have := ih s.tab
        have e1 : s.tab.count.length ≤ max s.count.length (s.b + 1) := by
          show ((padC s.count s.b).set _ _).length ≤ _
          rw [List.length_set]; exact padC_len _ _
        have e2 : s.tab.b = 0 := rfl
        rw [e2] at this; omega
      · omega

section
variable {W : Wd} {K : Frag} {C : Addr} {β : Bk} {d : Nat}
theorem in_for {X D : Addr} {ws : Str} {fields : List (String × PyData)} {free : List String} (G : GCls W K C) (B : Blt W) (hr : ("raw", PyData.str ws) ∈ fields) (hl : ws.cps.size ≤ 2 ^ 18) :
    X1 W d (inW (.fz (.instAt X D C fields free)) ws ⟨[], 0, 0, 0⟩ .unb) β inFor (.next (inW (.fz (.instAt X D C fields free)) ws (wspOf ws) .unb)) β := by
  have items : Items W (.d (.str ws)) (ws.cps.toList.map fun k => PV.d (.str ⟨#[k]⟩)) := by
    have := Items.str (W := W) (y := ws)
    unfold signs at this
    rw [List.map_map] at this
    exact this
  obtain ⟨fe, hrun, hfe⟩ := in_loop (W := W) (β := β) (d := d) (self := .fz (.instAt X D C fields free)) (ws := ws) (by simp) B ws.cps.toList ⟨[], 0, 0, 0⟩ (by simp; omega) (by simp; omega)
  rcases hfe with rfl | ⟨ch, rfl⟩
  · refine X1.for (r := .dat (.str ws)) (β1 := β) (β2 := β) (e := .done _) (Ev.attr (x := "self") (a := "raw") G (by (repeat (first | exact List.mem_cons_self | refine List.mem_cons_of_mem _ ?_))) (fun f ba v h => h.anon) hr (by decide)) items hrun Ex.nil
  · refine X1.post (τ := inW (.fz (.instAt X D C fields free)) ws (wspOf ws) (sStr ch)) ?_ (Gh.ff (by (repeat (first | exact FF.nil | refine FF.keep ?_ | refine FF.drop ?_ ?_ | simp))))
    exact X1.for (r := .dat (.str ws)) (β1 := β) (β2 := β) (e := .broke _) (Ev.attr (x := "self") (a := "raw") G (by (repeat (first | exact List.mem_cons_self | refine List.mem_cons_of_mem _ ?_))) (fun f ba v h => h.anon) hr (by decide)) items hrun ⟨rfl, rfl⟩

theorem in_all {X D : Addr} {ws : Str} (G : GCls W K C) (B : Blt W) (h0 : W.h0.get? D = none) (hl : ws.cps.size ≤ 2 ^ 18) :
    XI W d D (inV (.fz (.instAt X D C [] wFree0)) (sStr ws) .unb .unb .unb .unb .unb .unb .unb) β (fbody 1 ctops) (inV (.fz (.instAt X D C (wFields ws (wspOf ws)) wFree)) (sStr ws) (sStr " ") (sStr "\t") (.fz (.d (dInts (wspOf ws).count))) (sInt (wspOf ws).b) (sInt (wspOf ws).n) (sInt (wspOf ws).nt) .unb) β := by
  have len : (wspOf ws).count.length ≤ 2 ^ 19 := by
    have := (wspRun_len ws.cps.toList ⟨[], 0, 0, 0⟩).1
    simp only [List.length_nil, Array.length_toList] at this
    exact Nat.le_trans this (by omega)
  refine XI.attr (a := "raw") (l := .loc) (r := .str ws) (free' := ["is_simple", "norm", "nt", "n", "longest_run_of_spaces", "indent_level", "not_equal_witness"]) (β1 := β) G h0 (by (repeat (first | exact List.mem_cons_self | refine List.mem_cons_of_mem _ ?_))) (by (apply AllP.all; (repeat (first | exact AllP.nil | refine AllP.self ?_ | (refine AllP.cons ?_ ?_; first | exact Plain.unb | exact Plain.dat | exact Plain.own | exact Plain.glob | exact Plain.rng))))) (Ev.var (by (repeat (first | exact List.mem_cons_self | refine List.mem_cons_of_mem _ ?_)))) rfl (by decide) (by decide) (by decide) (by decide) (by decide) ?_
  refine XI.step (τ := inV (.fz (.instAt X D C [("raw", .str ws)] ["is_simple", "norm", "nt", "n", "longest_run_of_spaces", "indent_level", "not_equal_witness"])) (sStr ws) (sStr " ") (sStr "\t") .unb .unb .unb .unb .unb) (β1 := β) (X1.swap2 (x := "S") (y := "T") (u := .str " ") (v := .str "\t") (r := .dat (.tuple [.str " ", .str "\t"])) ?_ rfl (by (repeat (first | exact List.mem_cons_self | refine List.mem_cons_of_mem _ ?_))) (by simp) (by simp) (by (repeat (first | exact List.mem_cons_self | refine List.mem_cons_of_mem _ ?_))) (by simp) (by simp) (fun _ => rfl) ?_ ⟨.unb, by (repeat (first | exact List.mem_cons_self | refine List.mem_cons_of_mem _ ?_)), by simp⟩ ⟨.unb, by (repeat (first | exact List.mem_cons_self | refine List.mem_cons_of_mem _ ?_)), by simp⟩) ?_
  rotate_left
  · intro env h1 h2 h3
    have h4 : env.blockKind = .function := by unfold Env.blockKind; rw [h1]; rfl
    unfold swappedStores
    simp only [h4, List.filterMap_cons, h2, h3]
    rfl
  rotate_left
  · refine Ev.tuple (ps := [.d (.str " "), .d (.str "\t")]) ?_ rfl (by decide)
    exact Evs.consk (.str " ") (Ev.clsattr G (by (repeat (first | exact List.mem_cons_self | refine List.mem_cons_of_mem _ ?_))) G.name G.clsS) (Evs.consk (.str "\t") (Ev.clsattr G (by (repeat (first | exact List.mem_cons_self | refine List.mem_cons_of_mem _ ?_))) G.name G.clsT) Evs.nil)
  refine XI.step (τ := inV (.fz (.instAt X D C [("raw", .str ws)] ["is_simple", "norm", "nt", "n", "longest_run_of_spaces", "indent_level", "not_equal_witness"])) (sStr ws) (sStr " ") (sStr "\t") (.own []) .unb .unb .unb .unb) (β1 := β) (X1.assignNew (xs := []) (Ev.listd Evs.nil rfl (by decide)) (by (repeat (first | exact List.mem_cons_self | refine List.mem_cons_of_mem _ ?_)))) ?_
  refine XI.step (τ := inW (.fz (.instAt X D C [("raw", .str ws)] ["is_simple", "norm", "nt", "n", "longest_run_of_spaces", "indent_level", "not_equal_witness"])) ws ⟨[], 0, 0, 0⟩ .unb) (β1 := β) (X1.assign3 (x := "b") (y := "n") (z := "nt") (u := .int 0) (r := .int 0) Ev.int rfl (by (repeat (first | exact List.mem_cons_self | refine List.mem_cons_of_mem _ ?_))) (by simp) (by simp) (by (repeat (first | exact List.mem_cons_self | refine List.mem_cons_of_mem _ ?_))) (by simp) (by simp) (by (repeat (first | exact List.mem_cons_self | refine List.mem_cons_of_mem _ ?_))) (by simp) (by simp)) ?_
  refine XI.step (τ := inW (.fz (.instAt X D C [("raw", .str ws)] ["is_simple", "norm", "nt", "n", "longest_run_of_spaces", "indent_level", "not_equal_witness"])) ws (wspOf ws) .unb) (β1 := β) (in_for G B List.mem_cons_self hl) ?_
  generalize wspOf ws = r at len
  refine XI.pre (Gh.freeze (x := "count") (l := .loc) (xs := cInts r.count) (by (repeat (first | exact List.mem_cons_self | refine List.mem_cons_of_mem _ ?_)))) ?_
  show XI W d D (inV (.fz (.instAt X D C [("raw", .str ws)] ["is_simple", "norm", "nt", "n", "longest_run_of_spaces", "indent_level", "not_equal_witness"])) (sStr ws) (sStr " ") (sStr "\t") (.fz (.d (dInts r.count))) (sInt r.b) (sInt r.n) (sInt r.nt) .unb) β _ _ β
  refine XI.attr (a := "n") (l := .loc) (r := .int (r.n : Int)) (free' := ["is_simple", "norm", "nt", "longest_run_of_spaces", "indent_level", "not_equal_witness"]) (β1 := β) G h0 (by (repeat (first | exact List.mem_cons_self | refine List.mem_cons_of_mem _ ?_))) (by (apply AllP.all; (repeat (first | exact AllP.nil | refine AllP.self ?_ | (refine AllP.cons ?_ ?_; first | exact Plain.unb | exact Plain.dat | exact Plain.own | exact Plain.glob | exact Plain.rng))))) (Ev.var (by (repeat (first | exact List.mem_cons_self | refine List.mem_cons_of_mem _ ?_)))) rfl (by decide) (by decide) (by decide) (by simp) (by simp) ?_
  refine XI.attr (a := "nt") (l := .loc) (r := .int (r.nt : Int)) (free' := ["is_simple", "norm", "longest_run_of_spaces", "indent_level", "not_equal_witness"]) (β1 := β) G h0 (by (repeat (first | exact List.mem_cons_self | refine List.mem_cons_of_mem _ ?_))) (by (apply AllP.all; (repeat (first | exact AllP.nil | refine AllP.self ?_ | (refine AllP.cons ?_ ?_; first | exact Plain.unb | exact Plain.dat | exact Plain.own | exact Plain.glob | exact Plain.rng))))) (Ev.var (by (repeat (first | exact List.mem_cons_self | refine List.mem_cons_of_mem _ ?_)))) rfl (by decide) (by decide) (by decide) (by simp) (by simp) ?_
  refine XI.attr (a := "norm") (l := .loc) (r := .dat (normD r)) (free' := ["is_simple", "longest_run_of_spaces", "indent_level", "not_equal_witness"]) (β1 := β) G h0 (by (repeat (first | exact List.mem_cons_self | refine List.mem_cons_of_mem _ ?_))) (by (apply AllP.all; (repeat (first | exact AllP.nil | refine AllP.self ?_ | (refine AllP.cons ?_ ?_; first | exact Plain.unb | exact Plain.dat | exact Plain.own | exact Plain.glob | exact Plain.rng))))) ?_ rfl (by decide) (by decide) (by decide) (by simp) (by simp) ?_
  · refine Ev.tuple (ps := [.d (.tuple (cInts r.count)), .d (.int (r.b : Int))]) ?_ rfl (by simp)
    refine Evs.consk (.dat (.tuple (cInts r.count))) ?_ (Evs.consk (.int (r.b : Int)) (Ev.var (by (repeat (first | exact List.mem_cons_self | refine List.mem_cons_of_mem _ ?_)))) Evs.nil)
    refine Ev.callk (ps := [.d (dInts r.count)]) (by (repeat (first | exact List.mem_cons_self | refine List.mem_cons_of_mem _ ?_))) (Evs.consk (.dat (dInts r.count)) (Ev.var (by (repeat (first | exact List.mem_cons_self | refine List.mem_cons_of_mem _ ?_)))) Evs.nil) (Fn.t B.tuple (Op.tuplel (by simp; omega)))
  refine XI.attr (a := "is_simple") (l := .loc) (r := .bool (decide (r.count.length ≤ 1))) (free' := wFree) (β1 := β) G h0 (by (repeat (first | exact List.mem_cons_self | refine List.mem_cons_of_mem _ ?_))) (by (apply AllP.all; (repeat (first | exact AllP.nil | refine AllP.self ?_ | (refine AllP.cons ?_ ?_; first | exact Plain.unb | exact Plain.dat | exact Plain.own | exact Plain.glob | exact Plain.rng))))) ?_ rfl (by decide) (by decide) (by decide) (by simp) (by simp) ?_
  · refine Ev.cast (Ev.cmpk (.int (r.count.length : Int)) (.int 1) (in_len (l := r.count) B (by omega)) Ev.int Op.le) ?_
    show Res.bool _ = Res.bool _
    have : decide ((r.count.length : Int) ≤ 1) = decide (r.count.length ≤ 1) := by rw [Bool.eq_iff_iff, decide_eq_true_eq, decide_eq_true_eq]; omega
    rw [this]
  exact XI.nil

theorem make_op {ws : Str} (G : GCls W K C) (B : Blt W) (hl : ws.cps.size ≤ 2 ^ 18) : Op W (d + 2) (fun vs => call (.ref C) vs) [.d (.str ws)] β (.val (.inst C (wFields ws (wspOf ws)) wFree)) β := by
  refine Op.make (σ0 := fun X D => inV (.fz (.instAt X D C [] wFree0)) (sStr ws) .unb .unb .unb .unb .unb .unb .unb) (τ := fun X D => inV (.fz (.instAt X D C (wFields ws (wspOf ws)) wFree)) (sStr ws) (sStr " ") (sStr "\t") (.fz (.d (dInts (wspOf ws).count))) (sInt (wspOf ws).b) (sInt (wspOf ws).n) (sInt (wspOf ws).nt) .unb) (X0 := []) (free0 := wFree0) G ?_ ?_ ?_
  · intro X D
    refine .ploc ⟨by decide, by decide⟩ (by decide +kernel) List.mem_cons_self (.ploc ⟨by decide, by decide⟩ (by decide +kernel) (List.mem_cons_of_mem _ List.mem_cons_self) ?_)
    repeat refine .loc ⟨by decide, by decide⟩ (by decide +kernel) ?_
    repeat refine .glob ⟨by decide, by decide⟩ (by decide +kernel) ?_
    exact .nil
  · intro X D h0
    exact in_all (d := d) (β := β) (X := X) G B h0 hl
  · intro X D
    exact ⟨.loc, by (repeat (first | exact List.mem_cons_self | refine List.mem_cons_of_mem _ ?_))⟩
theorem make_fn {ws : Str} (G : GCls W K C) (B : Blt W) (hl : ws.cps.size ≤ 2 ^ 18) : Fn W (d + 2) "Whitespace" [.d (.str ws)] β (.val (.inst C (wFields ws (wspOf ws)) wFree)) β :=
  ⟨.ref C, G.name, G.keep, make_op G B hl⟩
end
end
section
set_option maxRecDepth 20000

theorem intBits_nat {n : Nat} (h : n < 2 ^ 64) : Builtin.Int.intBits (n : Int) ≤ 64 := by
  unfold Builtin.Int.intBits
  split
  · omega
  · rename_i hz
    have hn : n ≠ 0 := by rintro rfl; simp at hz
    rw [Int.natAbs_natCast]
    have := (Nat.log2_lt hn).mpr h
    omega
theorem mulNat {n : Nat} {b : Int} (h : n < 2 ^ 64) : IntMulOk (n : Int) b := .of_left (intBits_nat h)

noncomputable def longOf (r : Wsp) : Nat := max (r.count.length - 1) r.b
noncomputable def indStep (count : List Nat) (t : Nat) (il i : Nat) : Nat := il + i / t * count.getD i 0
noncomputable def ilOf (count : List Nat) (t : Nat) : Nat := (List.range' t (count.length - t)).foldl (indStep count t) 0
noncomputable def indentOf (r : Wsp) (t : Nat) : Nat := r.b + t * (ilOf r.count t + r.nt)
noncomputable abbrev sInst (C : Addr) (ws : Str) (r : Wsp) : Slot := .fz (.inst C (wFields ws r) wFree)
noncomputable abbrev pInst (C : Addr) (ws : Str) (r : Wsp) : PV := .inst C (wFields ws r) wFree

section
variable {W : Wd} {K : Frag} {C : Addr} {β : Bk} {d : Nat}

noncomputable abbrev loV (self count trailing : Slot) : Vars := [⟨"self", .loc, self⟩, ⟨"count", .loc, count⟩, ⟨"trailing", .loc, trailing⟩, ⟨"max", .loc, .glob⟩, ⟨"len", .loc, .glob⟩]
noncomputable abbrev sTup (l : List Nat) : Slot := .fz (.d (.tuple (cInts l)))
theorem long_mt {ws : Str} {r : Wsp} (G : GCls W K C) (m : MDef W K C "longest_run_of_spaces" 2 ["self"]) (B : Blt W) (hl : r.count.length ≤ 2 ^ 20) :
    Mt W (d + 1) (pInst C ws r) "longest_run_of_spaces" [] β (.int (longOf r : Int)) β := by
  refine Mt.of (σ' := loV (sInst C ws r) .unb .unb) G m (by decide) rfl (by decide) ?_ ?_
  · refine .ploc ⟨by decide, by decide⟩ (by decide +kernel) List.mem_cons_self ?_
    repeat refine .loc ⟨by decide, by decide⟩ (by decide +kernel) ?_
    repeat refine .glob ⟨by decide, by decide⟩ (by decide +kernel) ?_
    exact .nil
  refine Ex.consk (loV (sInst C ws r) (sTup r.count) (sInt r.b)) (X1.unpack (r := .dat (normD r)) (ds := [.tuple (cInts r.count), .int (r.b : Int)]) (Ev.attr (x := "self") (a := "norm") (y := normD r) G (by (repeat (first | exact List.mem_cons_self | refine List.mem_cons_of_mem _ ?_))) (fun f ba v h => h) (List.mem_cons_of_mem _ List.mem_cons_self) (by decide)) rfl (.cons (l := .loc) (sl := .unb) (by (repeat (first | exact List.mem_cons_self | refine List.mem_cons_of_mem _ ?_))) (by simp) (by simp) (.cons (l := .loc) (sl := .unb) (by (repeat (first | exact List.mem_cons_self | refine List.mem_cons_of_mem _ ?_))) (by simp) (by simp) .nil))) ?_
  refine Ex.ret (X1.ret (r := .int (longOf r : Int)) ?_)
  refine Ev.cast (Ev.callk (ps := [.d (.int ((r.count.length : Int) - 1)), .d (.int (r.b : Int))]) (by (repeat (first | exact List.mem_cons_self | refine List.mem_cons_of_mem _ ?_))) (Evs.consk (.int ((r.count.length : Int) - 1)) ?_ (Evs.consk (.int (r.b : Int)) (Ev.var (by (repeat (first | exact List.mem_cons_self | refine List.mem_cons_of_mem _ ?_)))) Evs.nil)) (Fn.b B.max Op.max)) ?_
  · refine Ev.bink (.int (r.count.length : Int)) (.int 1) ?_ Ev.int Op.sub
    refine Ev.cast (Ev.callk (ps := [.d (.tuple (cInts r.count))]) (by (repeat (first | exact List.mem_cons_self | refine List.mem_cons_of_mem _ ?_))) (Evs.consk (.dat (.tuple (cInts r.count))) (Ev.var (by (repeat (first | exact List.mem_cons_self | refine List.mem_cons_of_mem _ ?_)))) Evs.nil) (Fn.b B.len (Op.lent (by simp; omega)))) ?_
    show Res.int _ = Res.int _
    rw [List.length_map]
  · show Res.int _ = Res.int _
    unfold longOf
    congr 3
    omega

noncomputable abbrev ilV (self tab count trailing il i : Slot) : Vars := [⟨"self", .loc, self⟩, ⟨"tabsize", .loc, tab⟩, ⟨"count", .loc, count⟩, ⟨"trailing", .loc, trailing⟩, ⟨"il", .loc, il⟩, ⟨"i", .loc, i⟩, ⟨"range", .loc, .glob⟩, ⟨"len", .loc, .glob⟩]
theorem Op.itemT {value slice : Expr} {xs : List PyData} {k : Int} {x : PyData} (h0 : 0 ≤ k) (hk : k < 2 ^ 63) (hx : xs[k.toNat]? = some x) (hs : PlainSub slice := by intro _ _; rfl) : Op W d (stail value slice) [.d (.tuple xs), .d (.int k)] β (.dat x) β := fun A M ba s vs E Q c p q => by
  obtain ⟨v, u, rfl, pa, pb⟩ := p.two
  obtain ⟨l, us, rfl, hl, hr⟩ := pa.tuple
  obtain ⟨t, rfl⟩ := pb.int
  obtain ⟨v, e, hv⟩ := hr.get hx
  have e' : us[k.toNat]? = some v := by simpa using e
  have hlt : k.toNat < us.size := by
    rcases Nat.lt_or_ge k.toNat us.size with h | h
    · exact h
    · rw [Array.getElem?_eq_none h] at e'; cases e'
  have hj : seqIndex? k us.size = some k.toNat := by
    unfold seqIndex?
    have h1 : ¬ k < 0 := by omega
    have h2 : (decide (0 ≤ k) && decide (k < (us.size : Int))) = true := by simp; omega
    simp only [h1, if_false, h2, if_true]
  exact tail_any (hl : IsTup s.heap l us).typeIs PyProof.Rows.slot_tuple_getitem.lookup (PyProof.Rows.getItem_tuple hl (by omega) hk hj e' (q.same c rfl (.d hv))) (hs _ _)
theorem il_loop {self : Slot} {count : List Nat} {t b : Nat} (ht : 0 < t) (htb : t < 2 ^ 20) (hl : count.length ≤ 2 ^ 20) : ∀ (l : List Nat) (il : Nat), (∀ k ∈ l, k < count.length) →
    ForRun W d (forTarget (sAt (fbody 3 ctops) 2)) (forBody (sAt (fbody 3 ctops) 2)) (ilV self (sInt t) (sTup count) (sInt b) (sInt il) .unb) β (pInts l) (.done (ilV self (sInt t) (sTup count) (sInt b) (sInt (l.foldl (indStep count t) il)) .unb)) β := by
  intro l
  induction l with
  | nil => intro il _; exact .nil
  | cons k l ih =>
    intro il hk
    have hk0 := hk k List.mem_cons_self
    refine .cons (σ1 := ilV self (sInt t) (sTup count) (sInt b) (sInt il) (sInt k)) (.name (by (repeat (first | exact List.mem_cons_self | refine List.mem_cons_of_mem _ ?_))) (by simp) (by simp)) ?_ (ih (indStep count t il k) fun j hj => hk j (List.mem_cons_of_mem _ hj))
    refine Ex.post (τ := ilV self (sInt t) (sTup count) (sInt b) (sInt (indStep count t il k)) (sInt k)) (Ex.consk _ (X1.assign (r := .int ((indStep count t il k : Nat) : Int)) ?_ (by (repeat (first | exact List.mem_cons_self | refine List.mem_cons_of_mem _ ?_)))) Ex.nil) (Gh.ff (by (repeat (first | exact FF.nil | refine FF.keep ?_ | refine FF.drop ?_ ?_ | simp))))
    refine Ev.cast (Ev.bink (.int (il : Int)) (.int ((k / t * count.getD k 0 : Nat) : Int)) (Ev.var (by (repeat (first | exact List.mem_cons_self | refine List.mem_cons_of_mem _ ?_)))) ?_ Op.add) ?_
    · have hq : k / t ≤ k := Nat.div_le_self _ _
      refine Ev.cast (Ev.bink (.int ((k / t : Nat) : Int)) (.int ((count.getD k 0 : Nat) : Int)) ?_ ?_ (Op.mul (mulNat (by omega)))) (by simp)
      · refine Ev.cast (Ev.bink (.int (k : Int)) (.int (t : Int)) (Ev.var (by (repeat (first | exact List.mem_cons_self | refine List.mem_cons_of_mem _ ?_)))) (Ev.var (by (repeat (first | exact List.mem_cons_self | refine List.mem_cons_of_mem _ ?_)))) (Op.fdiv (by omega) (by omega))) (by simp)
      · exact Ev.subk (.dat (.tuple (cInts count))) (.int (k : Int)) (Ev.var (by (repeat (first | exact List.mem_cons_self | refine List.mem_cons_of_mem _ ?_)))) (Ev.var (by (repeat (first | exact List.mem_cons_self | refine List.mem_cons_of_mem _ ?_)))) (Op.itemT (by omega) (by omega) (at_ints count k hk0 _ rfl))
    · show Res.int _ = Res.int _
      unfold indStep
      simp
theorem ind_mt {ws : Str} {r : Wsp} {t : Nat} (G : GCls W K C) (m : MDef W K C "indent_level" 3 ["self", "tabsize"]) (B : Blt W) (hl : r.count.length ≤ 2 ^ 20) (ht : 0 < t) (htb : t < 2 ^ 20) :
    Mt W (d + 1) (pInst C ws r) "indent_level" [.d (.int (t : Int))] β (.int (indentOf r t : Int)) β := by
  refine Mt.of (σ' := ilV (sInst C ws r) (sInt t) .unb .unb .unb .unb) G m (by decide) rfl (by decide) ?_ ?_
  · refine .ploc ⟨by decide, by decide⟩ (by decide +kernel) List.mem_cons_self (.ploc ⟨by decide, by decide⟩ (by decide +kernel) (List.mem_cons_of_mem _ List.mem_cons_self) ?_)
    repeat refine .loc ⟨by decide, by decide⟩ (by decide +kernel) ?_
    repeat refine .glob ⟨by decide, by decide⟩ (by decide +kernel) ?_
    exact .nil
  refine Ex.consk (ilV (sInst C ws r) (sInt t) (sTup r.count) (sInt r.b) .unb .unb) (X1.unpack (r := .dat (normD r)) (ds := [.tuple (cInts r.count), .int (r.b : Int)]) (Ev.attr (x := "self") (a := "norm") (y := normD r) G (by (repeat (first | exact List.mem_cons_self | refine List.mem_cons_of_mem _ ?_))) (fun f ba v h => h) (List.mem_cons_of_mem _ List.mem_cons_self) (by decide)) rfl (.cons (l := .loc) (sl := .unb) (by (repeat (first | exact List.mem_cons_self | refine List.mem_cons_of_mem _ ?_))) (by simp) (by simp) (.cons (l := .loc) (sl := .unb) (by (repeat (first | exact List.mem_cons_self | refine List.mem_cons_of_mem _ ?_))) (by simp) (by simp) .nil))) ?_
  refine Ex.consk (ilV (sInst C ws r) (sInt t) (sTup r.count) (sInt r.b) (sInt 0) .unb) (X1.assign (r := .int ((0 : Nat) : Int)) Ev.int (by (repeat (first | exact List.mem_cons_self | refine List.mem_cons_of_mem _ ?_)))) ?_
  refine Ex.consk (ilV (sInst C ws r) (sInt t) (sTup r.count) (sInt r.b) (sInt (ilOf r.count t)) .unb) (X1.for (r := .val (.rng (t : Int) (r.count.length : Int) 1)) (β1 := β) (β2 := β) (e := .done _) ?_ (Items.rangeFrom t r.count.length (by omega) (by omega)) (il_loop ht htb hl _ 0 fun k hk => ?_) Ex.nil) ?_
  · refine Ev.callk (ps := [.d (.int (t : Int)), .d (.int (r.count.length : Int))]) (by (repeat (first | exact List.mem_cons_self | refine List.mem_cons_of_mem _ ?_))) (Evs.consk (.int (t : Int)) (Ev.var (by (repeat (first | exact List.mem_cons_self | refine List.mem_cons_of_mem _ ?_)))) (Evs.consk (.int (r.count.length : Int)) ?_ Evs.nil)) (Fn.t B.range Op.range2)
    refine Ev.cast (Ev.callk (ps := [.d (.tuple (cInts r.count))]) (by (repeat (first | exact List.mem_cons_self | refine List.mem_cons_of_mem _ ?_))) (Evs.consk (.dat (.tuple (cInts r.count))) (Ev.var (by (repeat (first | exact List.mem_cons_self | refine List.mem_cons_of_mem _ ?_)))) Evs.nil) (Fn.b B.len (Op.lent (by simp; omega)))) ?_
    show Res.int _ = Res.int _
    rw [List.length_map]
  · have := List.mem_range'_1.mp hk; omega
  refine Ex.ret (X1.ret (r := .int (indentOf r t : Int)) ?_)
  refine Ev.cast (Ev.bink (.int (r.b : Int)) (.int ((t * (ilOf r.count t + r.nt) : Nat) : Int)) (Ev.var (by (repeat (first | exact List.mem_cons_self | refine List.mem_cons_of_mem _ ?_)))) ?_ Op.add) ?_
  · refine Ev.cast (Ev.bink (.int (t : Int)) (.int ((ilOf r.count t + r.nt : Nat) : Int)) (Ev.var (by (repeat (first | exact List.mem_cons_self | refine List.mem_cons_of_mem _ ?_)))) ?_ (Op.mul (mulNat (by omega)))) (by simp)
    refine Ev.cast (Ev.bink (.int (ilOf r.count t : Int)) (.int (r.nt : Int)) (Ev.var (by (repeat (first | exact List.mem_cons_self | refine List.mem_cons_of_mem _ ?_)))) ?_ Op.add) (by simp)
    exact Ev.attr (x := "self") (a := "nt") G (by (repeat (first | exact List.mem_cons_self | refine List.mem_cons_of_mem _ ?_))) (fun f ba v h => h) (List.mem_cons_of_mem _ (List.mem_cons_of_mem _ List.mem_cons_self)) (by decide)
  · show Res.int _ = Res.int _
    unfold indentOf
    simp
end
end
section
set_option maxRecDepth 20000

noncomputable def witD (r r' : Wsp) (t : Nat) : PyData := .tuple [.int (t : Int), .int (indentOf r t : Int), .int (indentOf r' t : Int)]
noncomputable def witN (r r' : Wsp) : Nat := max (longOf r) (longOf r') + 1
noncomputable def witOf (r r' : Wsp) : List PyData := ((List.range' 1 (witN r r')).filter fun t => indentOf r t != indentOf r' t).map (witD r r')

section
variable {W : Wd} {K : Frag} {C : Addr} {β : Bk} {d : Nat}
structure GWs (W : Wd) (K : Frag) (C : Addr) : Prop where
  cls : GCls W K C
  long : MDef W K C "longest_run_of_spaces" 2 ["self"]
  ind : MDef W K C "indent_level" 3 ["self", "tabsize"]
  wit : MDef W K C "not_equal_witness" 5 ["self", "other"]

noncomputable abbrev neV (self other n a ts : Slot) : Vars := [⟨"self", .loc, self⟩, ⟨"other", .loc, other⟩, ⟨"n", .loc, n⟩, ⟨"a", .loc, a⟩, ⟨"ts", .loc, ts⟩, ⟨"max", .loc, .glob⟩, ⟨"range", .loc, .glob⟩]
theorem ne_loop {ws ws' : Str} {r r' : Wsp} {n : Slot} (G : GWs W K C) (B : Blt W) (hl : r.count.length ≤ 2 ^ 18) (hl' : r'.count.length ≤ 2 ^ 18) : ∀ (l : List Nat) (xs : List PyData), (∀ t ∈ l, 0 < t ∧ t < 2 ^ 20) → xs.length + l.length ≤ 2 ^ 20 →
    ForRun W (d + 1) (forTarget (sAt (fbody 5 ctops) 2)) (forBody (sAt (fbody 5 ctops) 2)) (neV (sInst C ws r) (sInst C ws' r') n (.own xs) .unb) β (pInts l) (.done (neV (sInst C ws r) (sInst C ws' r') n (.own (xs ++ ((l.filter fun t => indentOf r t != indentOf r' t).map (witD r r')))) .unb)) β := by
  intro l
  induction l with
  | nil => intro xs _ _; simpa using .nil
  | cons t l ih =>
    intro xs hk hsz
    obtain ⟨h0, hb⟩ := hk t List.mem_cons_self
    rw [List.length_cons] at hsz
    have hk' : ∀ t ∈ l, 0 < t ∧ t < 2 ^ 20 := fun j hj => hk j (List.mem_cons_of_mem _ hj)
    have test : Et W (d + 1) (neV (sInst C ws r) (sInst C ws' r') n (.own xs) (sInt t)) β (ifTest (sAt (forBody (sAt (fbody 5 ctops) 2)) 0)) (indentOf r t != indentOf r' t) β := by
      refine Et.cast (Et.cmpk (.int (indentOf r t : Int)) (.int (indentOf r' t : Int)) ?_ ?_ Op.ne) ?_
      · exact Ev.meth (p := .val (pInst C ws r)) (β1 := β) (β2 := β) (ps := [.d (.int (t : Int))]) (Ev.var (by (repeat (first | exact List.mem_cons_self | refine List.mem_cons_of_mem _ ?_)))) (Evs.consk (.int (t : Int)) (Ev.var (by (repeat (first | exact List.mem_cons_self | refine List.mem_cons_of_mem _ ?_)))) Evs.nil) (ind_mt G.cls G.ind B (by omega) h0 hb)
      · exact Ev.meth (p := .val (pInst C ws' r')) (β1 := β) (β2 := β) (ps := [.d (.int (t : Int))]) (Ev.var (by (repeat (first | exact List.mem_cons_self | refine List.mem_cons_of_mem _ ?_)))) (Evs.consk (.int (t : Int)) (Ev.var (by (repeat (first | exact List.mem_cons_self | refine List.mem_cons_of_mem _ ?_)))) Evs.nil) (ind_mt G.cls G.ind B (by omega) h0 hb)
      · rw [Bool.eq_iff_iff, bne_iff_ne, bne_iff_ne]; omega
    by_cases hne : (indentOf r t != indentOf r' t) = true
    · rw [List.filter_cons_of_pos (by exact hne), List.map_cons, List.append_cons]
      refine .cons (σ1 := neV (sInst C ws r) (sInst C ws' r') n (.own xs) (sInt t)) (.name (by (repeat (first | exact List.mem_cons_self | refine List.mem_cons_of_mem _ ?_))) (by simp) (by simp)) ?_ (ih (xs ++ [witD r r' t]) hk' (by simp; omega))
      refine Ex.post (τ := neV (sInst C ws r) (sInst C ws' r') n (.own (xs ++ [witD r r' t])) (sInt t)) (Ex.consk _ (X1.ite test (fun _ => ?_) fun z => by rw [hne] at z; cases z) Ex.nil) (Gh.ff (by (repeat (first | exact FF.nil | refine FF.keep ?_ | refine FF.drop ?_ ?_ | simp))))
      refine Ex.consk _ (X1.append (x := "a") (l := .loc) (xs := xs) (q := witD r r' t) (by (repeat (first | exact List.mem_cons_self | refine List.mem_cons_of_mem _ ?_))) ?_ (by omega)) Ex.nil
      refine Ev.tuple (ps := [.d (.int (t : Int)), .d (.int (indentOf r t : Int)), .d (.int (indentOf r' t : Int))]) ?_ rfl (by simp)
      refine Evs.consk (.int (t : Int)) (Ev.var (by (repeat (first | exact List.mem_cons_self | refine List.mem_cons_of_mem _ ?_)))) (Evs.consk (.int (indentOf r t : Int)) ?_ (Evs.consk (.int (indentOf r' t : Int)) ?_ Evs.nil))
      · exact Ev.meth (p := .val (pInst C ws r)) (β1 := β) (β2 := β) (ps := [.d (.int (t : Int))]) (Ev.var (by (repeat (first | exact List.mem_cons_self | refine List.mem_cons_of_mem _ ?_)))) (Evs.consk (.int (t : Int)) (Ev.var (by (repeat (first | exact List.mem_cons_self | refine List.mem_cons_of_mem _ ?_)))) Evs.nil) (ind_mt G.cls G.ind B (by omega) h0 hb)
      · exact Ev.meth (p := .val (pInst C ws' r')) (β1 := β) (β2 := β) (ps := [.d (.int (t : Int))]) (Ev.var (by (repeat (first | exact List.mem_cons_self | refine List.mem_cons_of_mem _ ?_)))) (Evs.consk (.int (t : Int)) (Ev.var (by (repeat (first | exact List.mem_cons_self | refine List.mem_cons_of_mem _ ?_)))) Evs.nil) (ind_mt G.cls G.ind B (by omega) h0 hb)
    · rw [List.filter_cons_of_neg (by exact hne)]
      refine .cons (σ1 := neV (sInst C ws r) (sInst C ws' r') n (.own xs) (sInt t)) (.name (by (repeat (first | exact List.mem_cons_self | refine List.mem_cons_of_mem _ ?_))) (by simp) (by simp)) ?_ (ih xs hk' (by omega))
      refine Ex.post (τ := neV (sInst C ws r) (sInst C ws' r') n (.own xs) (sInt t)) (Ex.consk _ (X1.ite test (fun z => absurd z hne) fun _ => Ex.nil) Ex.nil) (Gh.ff (by (repeat (first | exact FF.nil | refine FF.keep ?_ | refine FF.drop ?_ ?_ | simp))))

theorem wit_mt {ws ws' : Str} {r r' : Wsp} (G : GWs W K C) (B : Blt W) (hl : r.count.length ≤ 2 ^ 17) (hl' : r'.count.length ≤ 2 ^ 17) (hb : r.b ≤ 2 ^ 17) (hb' : r'.b ≤ 2 ^ 17) :
    Mt W (d + 2) (pInst C ws r) "not_equal_witness" [pInst C ws' r'] β (.dat (.list (witOf r r'))) β := by
  refine Mt.of (σ' := neV (sInst C ws r) (sInst C ws' r') .unb .unb .unb) G.cls G.wit (by decide) rfl (by decide) ?_ ?_
  · refine .ploc ⟨by decide, by decide⟩ (by decide +kernel) List.mem_cons_self (.ploc ⟨by decide, by decide⟩ (by decide +kernel) (List.mem_cons_of_mem _ List.mem_cons_self) ?_)
    repeat refine .loc ⟨by decide, by decide⟩ (by decide +kernel) ?_
    repeat refine .glob ⟨by decide, by decide⟩ (by decide +kernel) ?_
    exact .nil
  have hn : witN r r' ≤ 2 ^ 18 := by unfold witN longOf; omega
  refine Ex.consk (neV (sInst C ws r) (sInst C ws' r') (sInt (witN r r')) .unb .unb) (X1.assign (r := .int (witN r r' : Int)) ?_ (by (repeat (first | exact List.mem_cons_self | refine List.mem_cons_of_mem _ ?_)))) ?_
  · refine Ev.cast (Ev.bink (.int (max (longOf r : Int) (longOf r' : Int))) (.int 1) ?_ Ev.int Op.add) ?_
    · refine Ev.callk (ps := [.d (.int (longOf r : Int)), .d (.int (longOf r' : Int))]) (by (repeat (first | exact List.mem_cons_self | refine List.mem_cons_of_mem _ ?_))) (Evs.consk (.int (longOf r : Int)) ?_ (Evs.consk (.int (longOf r' : Int)) ?_ Evs.nil)) (Fn.b B.max Op.max)
      · exact Ev.meth0 (p := .val (pInst C ws r)) (β1 := β) (Ev.var (by (repeat (first | exact List.mem_cons_self | refine List.mem_cons_of_mem _ ?_)))) (long_mt G.cls G.long B (by omega))
      · exact Ev.meth0 (p := .val (pInst C ws' r')) (β1 := β) (Ev.var (by (repeat (first | exact List.mem_cons_self | refine List.mem_cons_of_mem _ ?_)))) (long_mt G.cls G.long B (by omega))
    · show Res.int _ = Res.int _
      unfold witN
      congr 3
      omega
  refine Ex.consk (neV (sInst C ws r) (sInst C ws' r') (sInt (witN r r')) (.own []) .unb) (X1.assignNew (xs := []) (Ev.listd Evs.nil rfl (by decide)) (by (repeat (first | exact List.mem_cons_self | refine List.mem_cons_of_mem _ ?_)))) ?_
  refine Ex.consk (neV (sInst C ws r) (sInst C ws' r') (sInt (witN r r')) (.own (witOf r r')) .unb) (X1.for (r := .val (.rng (1 : Nat) ((witN r r' + 1 : Nat) : Int) 1)) (β1 := β) (β2 := β) (e := .done _) ?_ (Items.rangeFrom 1 (witN r r' + 1) (by omega) (by omega)) (ne_loop G B (by omega) (by omega) _ [] (fun t ht => ?_) ?_) ?_) ?_
  · refine Ev.callk (ps := [.d (.int 1), .d (.int ((witN r r' + 1 : Nat) : Int))]) (by (repeat (first | exact List.mem_cons_self | refine List.mem_cons_of_mem _ ?_))) (Evs.consk (.int 1) Ev.int (Evs.consk (.int ((witN r r' + 1 : Nat) : Int)) ?_ Evs.nil)) (Fn.t B.range Op.range2)
    exact Ev.cast (Ev.bink (.int (witN r r' : Int)) (.int 1) (Ev.var (by (repeat (first | exact List.mem_cons_self | refine List.mem_cons_of_mem _ ?_)))) Ev.int Op.add) (by simp)
  · have := List.mem_range'_1.mp ht; omega
  · simp; omega
  · rw [List.nil_append, Nat.add_sub_cancel]
    exact Ex.nil
  refine Ex.pre (Gh.freeze (x := "a") (l := .loc) (xs := witOf r r') (by (repeat (first | exact List.mem_cons_self | refine List.mem_cons_of_mem _ ?_)))) ?_
  exact Ex.ret (X1.ret (r := .dat (.list (witOf r r'))) (Ev.var (by (repeat (first | exact List.mem_cons_self | refine List.mem_cons_of_mem _ ?_)))))
end
end
section
set_option maxRecDepth 20000

noncomputable def Bk0 : Bk := fun _ => none
theorem Bk0.ok : BkOk Bk0 := fun k i e => by cases e
/-- a call with a number and a new dict -/
theorem Ev.callBook {W : Wd} {d : Nat} {σ : Vars} {β β1 : Bk} {x : String} {l : Loc} {e1 : Expr} {i r : Int} {np dp pos : Pos} (hsys : ∃ b o, W.h0.get? b = some o ∧ sysModules < b) (h : (⟨x, l, .glob⟩ : Var) ∈ σ) (a : Ev W d σ β e1 (.int i) β) (f : Fn W d x [.d (.int i), .book] Bk0 (.int r) β1)
    (he : ∀ env, starEach [e1, .Dict [] [] dp] env = (false, eval e1 env) :: starEach [.Dict [] [] dp] env := by intro _; rfl) (hs : [e1, .Dict [] [] dp].all (fun e => !isStarred e) = true := by rfl) :
    Ev W d σ β (.Call (.Name (Str.ofString x) np) [e1, .Dict [] [] dp] [] pos) (.int r) β := .mk fun A env O M ba s E Q st q => by
  obtain ⟨f, hf, hk, op⟩ := f.ex
  rw [call_eq]
  refine wpAny_bind (gl_name st h hf ?_)
  refine callWith_any hs hk (args_cons (a.run A env O M ba s E _ st fun v h1 tk1 c1 k1 r1 => ?_) (he env))
  refine args_cons (wpAny_Dict_empty ?_) rfl
  refine args_nil ?_
  obtain ⟨c2, k2, hn, hsz, _⟩ := push_new c1 { cls := .type "dict", data := .dict #[] } rfl tk1
  dsimp only at c2 k2 hn hsz ⊢
  refine ⟨fun b o e => (c2.base b o e).1, ?_⟩
  have hM : h1.objs.size ∉ M := c1.fresh hn
  have h0 : W.h0.get? h1.objs.size = none := by
    cases e : W.h0.get? h1.objs.size with
    | none => rfl
    | some o => have := (c1.base _ o e).1; dsimp only at this; rw [hn] at this; cases this
  have c3 : Co W d A (h1.objs.size :: M) (some h1.objs.size) Bk0 { s with heap := h1.push { cls := .type "dict", data := .dict #[] }, toks := tk1 } := by
    refine ⟨c2.hand, c2.room, c2.units, fun b o e => ⟨(c2.base b o e).1, fun z => ?_⟩, fun m hm => ?_, ⟨List.mem_cons_self, [], Heap.DictOf.new _, fun k => rfl, ?_⟩⟩
    · rcases List.mem_cons.mp z with z | z
      · rw [z, h0] at e; cases e
      · exact (c2.base b o e).2 z
    · rcases List.mem_cons.mp hm with rfl | hm
      · exact ⟨_, hsz⟩
      · exact c2.live m hm
    · obtain ⟨b, o, e, hlt⟩ := hsys
      have hb : b < h1.objs.size := Heap.lt_size (c1.base b o e).1
      have : h1.objs.size ≠ sysModules := fun z => by rw [z] at hb; exact Nat.lt_asymm hlt hb
      simpa using this
  cases r1 with
  | val r1 =>
    obtain ⟨t, rfl⟩ := r1.int
    refine op A (h1.objs.size :: M) (some h1.objs.size) _ [.int i t, .ref h1.objs.size] E _ c3 (.cons (.d (.int _ _)) (.cons (.book rfl) .nil)) fun v2 h4 tk4 c4 k4 r4 => ?_
    cases r4 with
    | val r4 =>
      obtain ⟨t', rfl⟩ := r4.int
      have kk : ∀ b o, h1.get? b = some o → h4.get? b = some o := fun b o e => k4 b o (Heap.get?_push_of_some _ e) (fun z => by
        have : h1.objs.size = b := by simpa using z
        rw [← this, hn] at e; cases e)
      refine q _ h4 tk4 ⟨c4.hand, c4.room, c4.units, fun b o e => ⟨(c4.base b o e).1, fun z => (c4.base b o e).2 (List.mem_cons_of_mem _ z)⟩, fun m hm => c4.live m (List.mem_cons_of_mem _ hm), ?_⟩ (k1.trans (Kp.of_all kk)) (.val (.d (.int _ _)))
      exact c1.book.at fun a _ o e => kk a o e
end
section
set_option maxRecDepth 20000

/-- hidden objects that are no place of the frame's own change -/
theorem St.butG {W d A env σ O M ba β} {s : Shared} {X : List Addr} (t : St W d A env σ O M ba β s) {h' : Heap} (tk : Nat)
    (k : ∀ b o, b ∉ X → s.heap.get? b = some o → h'.get? b = some o) (hX : ∀ b ∈ X, b ∈ M) (hL : env.locals ∉ X) (hcI : ∀ x c, env.cells.lookup x = some c → c ∉ X) (hO : ∀ x a, (x, a) ∈ O → a ∉ X) (hb : ∀ a, ba = some a → a ∉ X) (hl : ∀ b ∈ X, ∃ o, h'.get? b = some o) :
    St W d A env σ O M ba β { s with heap := h', toks := tk } := by
  have le : Fz.le (frz s.heap M) (frz h' M) := fun b o e => by
    obtain ⟨x, y⟩ := frz_some.mp e
    exact frz_some.mpr ⟨x, k b o (fun z => x (hX b z)) y⟩
  have nsL : ∀ {m}, s.heap.Ns env.locals m → h'.Ns env.locals m := fun {m} n => n.at' fun o e => k _ o hL e
  have cell' : ∀ {x a w}, env.cells.lookup x = some a → s.heap.IsCell a w → h'.IsCell a w := fun {x a w} hc y => let ⟨o, p, q⟩ := y; ⟨o, k a o (hcI x a hc) p, q⟩
  have c' : Co W d A M ba β { s with heap := h', toks := tk } := ⟨t.co.hand, t.co.room, t.co.units, fun b o e => ⟨k b o (fun z => (t.co.base b o e).2 (hX b z)) (t.co.base b o e).1, (t.co.base b o e).2⟩,
    fun m hm => by
      by_cases z : m ∈ X
      · exact hl m z
      · obtain ⟨o, e⟩ := t.co.live m hm; exact ⟨o, k m o z e⟩,
    t.co.book.at fun a e o e' => k a o (hb a e) e'⟩
  refine ⟨c', t.kind, t.glob, t.blt, t.apart, t.lm, let ⟨m, n⟩ := t.ns; ⟨m, nsL n⟩, t.cm, fun x c hc => let ⟨v, y⟩ := t.cc x c hc; ⟨v, cell' hc y⟩, t.cinj, t.names, fun ⟨vn, vl, vs⟩ hv => ?_⟩
  have y : SlotOk env s.heap M ba O vn vl vs := t.vars _ hv
  show SlotOk env h' M ba O vn vl vs
  have has : ∀ {v}, Has env s.heap (Str.ofString vn) v vl → Has env h' (Str.ofString vn) v vl := fun {v} z => by
    cases vl with
    | loc => obtain ⟨m2, n2, e2⟩ := z; exact ⟨m2, nsL n2, e2⟩
    | cell => obtain ⟨c2, e, z⟩ := z; exact ⟨c2, e, cell' e z⟩
    | free => obtain ⟨c2, e, z⟩ := z; exact ⟨c2, e, cell' e z⟩
  cases y with
  | unb a => exact .unb a
  | fz a b c => exact .fz a (has b) (c.mono le)
  | own a b c d e f => exact .own a (has b) c d (k _ _ (hO _ _ c) e) (f.mono le)
  | glob a => exact .glob a

theorem VRs.anyInts {f g : Fz} : ∀ {vs : List Value} {ns : List Int}, VRs f vs (ns.map .int) → VRs g vs (ns.map .int)
  | _, [], .nil => .nil
  | _, _ :: _, .cons a b => by cases a; exact .cons (.int _ _) (VRs.anyInts b)

noncomputable def pairsI (ns : List Int) : List PV := ns.zipIdx.map fun p => PV.d (.tuple [.int (p.2 : Int), .int p.1])
theorem pairsI_get (ns : List Int) (i : Nat) : (pairsI ns)[i]? = (ns[i]?).map fun x => PV.d (.tuple [.int (i : Int), .int x]) := by
  unfold pairsI
  rw [List.getElem?_map, List.getElem?_zipIdx]
  cases ns[i]? <;> simp

noncomputable def EnumSt (e it l : Addr) (items : Array Value) (i : Nat) (h : Heap) : Prop := (∃ old, IsEnum h e it i old) ∧ h.IsListIter it l i ∧ h.IsList l items
theorem EnumSt.off {e it l : Addr} {items : Array Value} {i : Nat} {h : Heap} (x : EnumSt e it l items i h) : ∀ b ∈ [e, it, l], (∃ o, h.get? b = some o ∧ (∀ es n, o.data ≠ .dict es n) ∧ (∀ v, o.data ≠ .cell v)) := by
  obtain ⟨⟨old, he⟩, ⟨oi, hoi, _, hdi⟩, ⟨ol, hol, _, n, hdl⟩⟩ := x
  intro b hb
  simp only [List.mem_cons, List.not_mem_nil, or_false] at hb
  rcases hb with rfl | rfl | rfl
  · exact ⟨_, he, (fun _ _ z => by cases z), fun _ z => by cases z⟩
  · exact ⟨_, hoi, (fun _ _ z => by rw [hdi] at z; cases z), fun _ z => by rw [hdi] at z; cases z⟩
  · exact ⟨_, hol, (fun _ _ z => by rw [hdl] at z; cases z), fun _ z => by rw [hdl] at z; cases z⟩

theorem enum_run {W : Wd} {d : Nat} {es : List Expr} {n : Nat} {tp : Pos} {body : List Stmt} {τ : Vars} {β1 : Bk} {ns : List Int} {A : Around} {env : Env} {e it l : Addr} {N : List Addr} {g : Fz} {ba : Option Addr} {items : Array Value}
    (hei : e ≠ it) (hle : l ≠ e) (hli : l ≠ it) (hg : ∀ b ∈ [e, it, l], g b = none) (hN : it ∉ N) (hv : ∀ f, VRs f items.toList (ns.map .int)) {R : Result → Shared → Prop} :
    ∀ {pvs : List PV} {σ : Vars} {β : Bk} {fe : FE}, ForRun W d (.Tuple es n tp) body σ β pvs fe β1 → fe = .done τ → ∀ (i : Nat) (s : Shared) (O : List (String × Addr)) (M : List Addr), pvs = (pairsI ns).drop i → i ≤ ns.length → Act W d A env σ O M ba β s g ([e, it, l] ++ N) → EnumSt e it l items i s.heap →
      (∀ O M h' tk, Act W d A env τ O M ba β1 { s with heap := h', toks := tk } g N → R (.ok .next) { s with heap := h', toks := tk }) →
      codeAny W.md A (.forLoop (.Tuple es n tp) (.ref e) body [] env) R s := by
  have hsz : items.size = ns.length := by have := (hv (fun _ => none)).length; simpa using this
  have plen : (pairsI ns).length = ns.length := by simp [pairsI]
  have ti : it ∈ [e, it, l] := List.mem_cons_of_mem _ List.mem_cons_self
  -- what the three are not
  have apart : ∀ {σ O M β} {s : Shared} {i : Nat}, Act W d A env σ O M ba β s g ([e, it, l] ++ N) → EnumSt e it l items i s.heap → (env.locals ∉ [e, it, l]) ∧ (∀ x c, env.cells.lookup x = some c → c ∉ [e, it, l]) ∧ (∀ x a, (x, a) ∈ O → a ∉ [e, it, l]) ∧ (∀ a, ba = some a → a ∉ [e, it, l]) ∧ (∀ b ∈ [e, it, l], b ∈ M) := fun {σ O M β s i} t st => by
    have off := st.off
    refine ⟨fun z => ?_, fun x c hc z => ?_, fun x a h z => t.on x a h (List.mem_append_left _ z), fun a e z => ?_, fun b hb => t.nm b (List.mem_append_left _ hb)⟩
    · obtain ⟨o, ho, h1, h2⟩ := off _ z
      obtain ⟨m, o', es, ep, e', dd, _⟩ := t.st.ns
      rw [ho] at e'; cases e'; exact h1 _ _ dd
    · obtain ⟨o, ho, h1, h2⟩ := off _ z
      obtain ⟨w, o', e', dd⟩ := t.st.cc x c hc
      rw [ho] at e'; cases e'; exact h2 _ dd
    · obtain ⟨o, ho, h1, h2⟩ := off _ z
      have b := t.st.co.book
      subst e
      obtain ⟨_, gg, ⟨o', es, ep, e', _, d', _⟩, _⟩ := b
      rw [ho] at e'; cases e'; exact h1 _ _ d'
  have step : ∀ {σ O M β} {s : Shared} {i : Nat} {h1 : Heap} {tk1 : Nat}, Act W d A env σ O M ba β s g ([e, it, l] ++ N) → EnumSt e it l items i s.heap → (∀ b o, b ∉ [e, it] → s.heap.get? b = some o → h1.get? b = some o) → (∀ b ∈ [e, it], ∃ o, h1.get? b = some o) →
      Act W d A env σ O M ba β { s with heap := h1, toks := tk1 } g ([e, it, l] ++ N) := fun {σ O M β s i h1 tk1} t st k hl => by
    obtain ⟨a1, a2, a3, a4, a5⟩ := apart t st
    have sub : ∀ b ∈ [e, it], b ∈ [e, it, l] := fun b hb => by simp only [List.mem_cons, List.not_mem_nil, or_false] at hb ⊢; exact hb.elim .inl fun z => .inr (.inl z)
    exact ⟨t.st.butG tk1 k (fun b hb => a5 b (sub b hb)) (fun z => a1 (sub _ z)) (fun x c hc z => a2 x c hc (sub _ z)) (fun x a h z => a3 x a h (sub _ z)) (fun a e z => a4 a e (sub _ z)) hl,
      fun b o e => k b o (fun z => by rw [hg b (sub b z)] at e; cases e) (t.keep b o e), t.gL, t.gc, t.go, t.gb, t.nm, t.on, t.oinj, t.om, t.gm⟩
  intro pvs σ β fe r
  induction r with
  | @nil σ β =>
    intro hfe i s O M hit hi t st fin
    cases hfe
    have hi' : i = items.size := by
      have := congrArg List.length hit
      simp [plen] at this; omega
    subst hi'
    refine codeAny_of_tree ?_
    show wpAny _ A ((forTurn (.Tuple es n tp) (.ref e) body [] env).onRaise (fun x => do noteFrame x env; theTreesLotGoes x)) _ _ s
    refine wpAny_noted ?_
    simp only [forTurn]
    refine wpAny_bind (wpAny_standAt (wpAny_bind (wpAny_onRaise ?_)))
    have hs := st
    obtain ⟨⟨old, he⟩, hit', hl'⟩ := hs
    refine wpAny_pyNext_enum_end t.st.co.hand he hit' hl' (Array.getElem?_eq_none (Nat.le_refl _)) fun h1 hx => wpAny_pure ?_
    refine ⟨rfl, codeAny_block ?_⟩
    obtain ⟨a1, a2, a3, a4, a5⟩ := apart t st
    have ti : it ∈ [e, it, l] := List.mem_cons_of_mem _ List.mem_cons_self
    have t' : Act W d A env τ O M ba β s g N := ⟨t.st, t.keep, t.gL, t.gc, t.go, t.gb, fun m hm => t.nm m (List.mem_append_right _ hm), fun x a h z => t.on x a h (List.mem_append_right _ z), t.oinj, t.om, fun b o eq hb => by
      rcases List.mem_append.mp (t.gm b o eq hb) with z | z
      · rw [hg b z] at eq; cases eq
      · exact z⟩
    refine wpAny_execs_nil ?_
    exact fin O _ h1 s.toks (t'.dropG (I := it) s.toks (fun b o hb ho => hx b o hb ho) (a5 it ti) (fun z => a1 (z ▸ ti)) (fun x c hc z => a2 x c hc (z ▸ ti)) (fun x a h z => a3 x a h (z ▸ ti)) (fun z => a4 it z ti) (hg it ti) hN)
  | @cons σ β pv ps σ1 σ2 β2 e' β1 hset hbody _ ih =>
    intro hfe i s O M hit hi t st fin
    have hlt : i < ns.length := by
      have := congrArg List.length hit
      simp [plen] at this; omega
    have hpv : (pairsI ns)[i]? = some pv := by
      have := congrArg (fun l => l[0]?) hit
      simpa using this.symm
    have hps : ps = (pairsI ns).drop (i + 1) := by
      have := congrArg List.tail hit
      simpa using this
    rw [pairsI_get, List.getElem?_eq_getElem hlt] at hpv
    cases hpv
    have hs := st
    obtain ⟨⟨old, he⟩, hit', hl'⟩ := hs
    have hx : items[i]? = some items[i] := Array.getElem?_eq_getElem (by omega)
    have hxt : items.toList[i]? = some items[i] := by simpa using hx
    refine codeAny_of_tree ?_
    show wpAny _ A ((forTurn (.Tuple es n tp) (.ref e) body [] env).onRaise (fun x => do noteFrame x env; theTreesLotGoes x)) _ _ s
    refine wpAny_noted ?_
    simp only [forTurn]
    refine wpAny_bind (wpAny_standAt (wpAny_bind (wpAny_onRaise ?_)))
    refine wpAny_pyNext_enum_item he hit' hl' hx hei fun h1 ho hit1 hT hsz1 hk => ?_
    have old_lt : ∀ {b o}, s.heap.get? b = some o → b < s.heap.objs.size := fun h => Heap.lt_size h
    have heT : e ≠ s.heap.objs.size := Nat.ne_of_lt (old_lt he)
    have hiT : it ≠ s.heap.objs.size := by obtain ⟨_, x, _⟩ := hit'; exact Nat.ne_of_lt (old_lt x)
    have hlT : l ≠ s.heap.objs.size := by obtain ⟨_, x, _⟩ := hl'; exact Nat.ne_of_lt (old_lt x)
    have hTM : s.heap.objs.size ∉ M := fun z => by obtain ⟨o, eo⟩ := t.st.co.live _ z; exact absurd (Heap.lt_size eo) (Nat.lt_irrefl _)
    refine wpAny_bind (wpAny_letOwnedTupleGo_enum ho fun h2 he2 hs2 => ?_)
    have hl2 : h2.IsList l items := (hl'.at fun o x => hk l o hle hli x).at fun o x => (hs2.2 l hle).trans x
    have hit2 : h2.IsListIter it l (i + 1) := hit1.at fun o x => (hs2.2 it hei.symm).trans x
    have k2 : ∀ b o, b ∉ [e, it] → s.heap.get? b = some o → h2.get? b = some o := fun b o hb eo => (hs2.2 b fun z => hb (by simp [z])).trans (hk b o (fun z => hb (by simp [z])) (fun z => hb (by simp [z])) eo)
    have st2 : EnumSt e it l items (i + 1) h2 := ⟨⟨_, by simpa using he2⟩, hit2, hl2⟩
    have hT2 : h2.get? s.heap.objs.size = some { cls := .type "tuple", data := .seq #[.int i s.toks, items[i]] } := (hs2.2 _ heT.symm).trans hT
    have t2 : Act W d A env σ O M ba β { s with heap := h2, toks := s.toks + 1 } g ([e, it, l] ++ N) := step t st k2 fun b hb => by
      obtain ⟨o, a, _⟩ := st2.off b (by simp only [List.mem_cons, List.not_mem_nil, or_false] at hb ⊢; exact hb.elim .inl fun z => .inr (.inl z))
      exact ⟨o, a⟩
    obtain ⟨dd, hd1, hd2⟩ := (hv (frz h2 M)).get' hxt
    rw [List.getElem?_map, List.getElem?_eq_getElem hlt] at hd1
    cases hd1
    have pr : PR (frz h2 M) ba (.ref s.heap.objs.size) (.d (.tuple [.int (i : Int), .int ns[i]])) := .d (.tuple (frz_some.mpr ⟨hTM, hT2⟩) rfl rfl (.cons (.int _ _) (.cons hd2 .nil)))
    obtain ⟨tg, leg⟩ := t2.regrow
    obtain ⟨a1, a2, a3, a4, a5⟩ := apart t2 st2
    have gI : ∀ b ∈ [e, it, l], ∀ o, h2.get? b = some o → guard h2 env O ba b = some o := fun b hb o eo => guard_of eo (fun z => a1 (z ▸ hb)) (fun x z => a2 x b z hb) (fun x z => a3 x b z hb) (fun z => a4 b z hb)
    refine wpAny_bind (act_assign tg hset pr fun h3 tk3 t3 => ?_)
    refine wpAny_bind (hbody.run A env O M ba _ _ _ _ _ t3 fun fw O4 M4 h4 tk4 t4 r4 => ?_)
    cases r4
    refine wpAny_pure ⟨rfl, ?_⟩
    have st4 : EnumSt e it l items (i + 1) h4 := by
      obtain ⟨⟨old2, e2⟩, i2, l2⟩ := st2
      refine ⟨⟨old2, t4.keep _ _ (gI e List.mem_cons_self _ e2)⟩, i2.at fun o x => t4.keep _ _ (gI it ti _ x), l2.at fun o x => t4.keep _ _ (gI l (by simp) _ x)⟩
    exact ih hfe (i + 1) _ O4 M4 hps hlt (t4.back leg (fun m hm => List.mem_append_left _ hm) fun b o eq hb => t2.gm b o eq (guardN_sub t2.nm b hb)) st4 fun O5 M5 h5 tk5 t5 => fin O5 M5 h5 tk5 t5
  | brk => intro hfe; cases hfe
  | ret => intro hfe; cases hfe

/-- a for over the numbered list -/
theorem X1.forEnum {W : Wd} {d : Nat} {σ τ : Vars} {β β1 : Bk} {l : Loc} {es xs : List Expr} {n : Nat} {tp lp np cp pos : Pos} {body : List Stmt} {ns : List Int} (hf : W.gl (Str.ofString "enumerate") = some (.type "enumerate")) (hx : (⟨"enumerate", l, .glob⟩ : Var) ∈ σ)
    (a : Ev W d σ β (.List xs lp) (.new (ns.map .int)) β) (hr : ForRun W d (.Tuple es n tp) body σ β (pairsI ns) (.done τ) β1)
    (he : ∀ env, starEach [.List xs lp] env = (false, eval (.List xs lp) env) :: starEach [] env := by intro _; rfl)
    (hs : ∀ env x, foldedSetIterable (.Call (.Name (Str.ofString "enumerate") np) [.List xs lp] [] cp) env x = pure x := by intro _ _; rfl) :
    X1 W d σ β (.For (.Tuple es n tp) (.Call (.Name (Str.ofString "enumerate") np) [.List xs lp] [] cp) body [] pos) (.next τ) β1 := .mk fun A env O M ba s g N E Q t q => by
  refine wpAny_For ?_ (hs env)
  rw [call_eq]
  refine wpAny_bind (gl_name t.st hx hf ?_)
  refine callWith_any (by rfl) (KeepOk.type (W := W)) (args_cons (a.run A env O M ba s E _ t.st fun v h1 tk1 c1 k1 r1 => args_nil ⟨fun b o e => (c1.base b o e).1, ?_⟩) (he env))
  cases r1 with
  | @new ll k vs _ hn ho hv =>
    have hL : h1.IsList ll vs := ⟨_, ho, rfl, k, rfl⟩
    refine call_enumerate_list (s := { s with heap := h1, toks := tk1 }) hL fun h2 hE hI hsz k2 => ?_
    refine wpAny_pyIter_enum hE ?_
    dsimp only at hE hI k2 ⊢
    have lt1 : ∀ {b o}, h1.get? b = some o → b < h1.objs.size := fun h => Heap.lt_size h
    have fresh : ∀ b, h1.objs.size ≤ b → h1.get? b = none := fun b hb => by
      cases eb : h1.get? b with
      | none => rfl
      | some o => exact absurd (lt1 eb) (Nat.not_lt.mpr hb)
    have sfresh : ∀ b, h1.get? b = none → s.heap.get? b = none ∨ ba = some b := fun b hb => by
      cases eb : s.heap.get? b with
      | none => exact .inl rfl
      | some o =>
        by_cases z : ba = some b
        · exact .inr z
        · rw [k1 b o eb z] at hb; cases hb
    have hll : ll ∉ M := t.st.co.fresh hn
    have heM : h1.objs.size + 1 ∉ M := c1.fresh (fresh _ (by omega))
    have hiM : h1.objs.size ∉ M := c1.fresh (fresh _ (by omega))
    have t1 := t.step c1 k1
    have c2 : Co W d A M ba β { s with heap := h2, toks := tk1 } := c1.step tk1 k2
    have t2 := t1.step c2 (Kp.of_all k2)
    have lne : ll ≠ h1.objs.size := Nat.ne_of_lt (lt1 ho)
    have lne' : ll ≠ h1.objs.size + 1 := Nat.ne_of_lt (Nat.lt_succ_of_lt (lt1 ho))
    have gnone : ∀ b ∈ [h1.objs.size + 1, h1.objs.size, ll], g b = none := fun b hb => by
      simp only [List.mem_cons, List.not_mem_nil, or_false] at hb
      cases eb : g b with
      | none => rfl
      | some o =>
        rcases hb with rfl | rfl | rfl
        · have := t1.keep _ o eb; rw [show h1.get? _ = none from fresh _ (by omega)] at this; cases this
        · have := t1.keep _ o eb; rw [show h1.get? _ = none from fresh _ (by omega)] at this; cases this
        · have := t.keep _ o eb; rw [hn] at this; cases this
    have notM : ∀ b ∈ [h1.objs.size + 1, h1.objs.size, ll], b ∉ M := fun b hb => by
      simp only [List.mem_cons, List.not_mem_nil, or_false] at hb
      rcases hb with rfl | rfl | rfl
      · exact heM
      · exact hiM
      · exact hll
    have live2 : ∀ b ∈ [h1.objs.size + 1, h1.objs.size, ll], ∃ o, h2.get? b = some o := fun b hb => by
      simp only [List.mem_cons, List.not_mem_nil, or_false] at hb
      rcases hb with rfl | rfl | rfl
      · exact ⟨_, hE⟩
      · obtain ⟨o, e, _⟩ := hI; exact ⟨o, e⟩
      · exact ⟨_, k2 _ _ ho⟩
    have sn : ∀ b ∈ [h1.objs.size + 1, h1.objs.size, ll], s.heap.get? b = none := fun b hb => by
      have hb' := hb
      simp only [List.mem_cons, List.not_mem_nil, or_false] at hb
      rcases hb with rfl | rfl | rfl
      · exact (sfresh _ (fresh _ (by omega))).resolve_right fun z => by subst z; exact notM _ hb' t.st.co.ba_mem
      · exact (sfresh _ (fresh _ (by omega))).resolve_right fun z => by subst z; exact notM _ hb' t.st.co.ba_mem
      · exact hn
    have st2 : St W d A env σ O ([h1.objs.size + 1, h1.objs.size, ll] ++ M) ba β { s with heap := h2, toks := tk1 } := t.st.hide (N := [h1.objs.size + 1, h1.objs.size, ll]) c2 (k1.trans (Kp.of_all k2)) sn live2
    have t3 : Act W d A env σ O ([h1.objs.size + 1, h1.objs.size, ll] ++ M) ba β { s with heap := h2, toks := tk1 } g ([h1.objs.size + 1, h1.objs.size, ll] ++ N) := ⟨st2, t2.keep, t2.gL, t2.gc, t2.go, t2.gb, fun m hm => by
        rcases List.mem_append.mp hm with hm | hm
        · exact List.mem_append_left _ hm
        · exact List.mem_append_right _ (t2.nm m hm), fun x a h z => by
        rcases List.mem_append.mp z with z | z
        · exact notM a z (t2.om x a h)
        · exact t2.on x a h z, t2.oinj, fun x a h => List.mem_append_right _ (t2.om x a h), fun b o e hb => by
        rcases List.mem_append.mp hb with hb | hb
        · exact List.mem_append_left _ hb
        · exact List.mem_append_right _ (t2.gm b o e hb)⟩
    refine enum_run (ns := ns) (items := vs) (N := N) (Nat.succ_ne_self _) lne' lne gnone (fun z => hiM (t.nm _ z)) (fun f => VRs.anyInts hv) hr rfl 0 _ O _ rfl (Nat.zero_le _) t3 ⟨⟨_, hE⟩, hI, hL.at fun o x => k2 ll o x⟩ fun O4 M4 h4 tk4 t4 => q .next O4 M4 h4 tk4 t4 .next
end
section
set_option maxRecDepth 20000

noncomputable def sl (ns : List Int) (k : Nat) : List Int := (sliceRange (sliceBounds (some (k : Int)) (some 63) (some 7) ns.length).1 (sliceBounds (some (k : Int)) (some 63) (some 7) ns.length).2.1 (sliceBounds (some (k : Int)) (some 63) (some 7) ns.length).2.2).filterMap (ns[·]?)
theorem sl_len (ns : List Int) (k : Nat) : (sl ns k).length ≤ ns.length := by
  unfold sl
  refine Nat.le_trans (List.length_filterMap_le _ _) (sliceRange_length_le _ _ _ _ (fun _ => ?_) fun h => absurd (show (7 : Int) > 0 by decide) h)
  unfold sliceBounds
  simp only [Option.getD_some]
  split <;> split <;> simp <;> omega
theorem pick_sl (ns : List Int) (k : Nat) : pickD (ns.map .int) (some (k : Int)) (some 63) (some 7) = (sl ns k).map .int := by
  unfold pickD sl
  rw [List.length_map, List.map_filterMap]
  congr 1
  funext i
  rw [List.getElem?_map]
noncomputable abbrev lawW (zscript zdrawn zk zstart zbits znumber zsaid zmail ztold ztyped zeven zhooks zlead zgap znear zfar zdeep zways zdue zeach zt zcolumn zseen zodd zshift : Slot) : Vars := [⟨"script", .loc, zscript⟩, ⟨"drawn", .loc, zdrawn⟩, ⟨"k", .loc, zk⟩, ⟨"start", .loc, zstart⟩, ⟨"bits", .cell, zbits⟩, ⟨"number", .loc, znumber⟩, ⟨"said", .loc, zsaid⟩, ⟨"mail", .loc, zmail⟩, ⟨"told", .loc, ztold⟩, ⟨"typed", .loc, ztyped⟩, ⟨"even", .loc, zeven⟩, ⟨"hooks", .loc, zhooks⟩, ⟨"lead", .loc, zlead⟩, ⟨"gap", .loc, zgap⟩, ⟨"near", .loc, znear⟩, ⟨"far", .loc, zfar⟩, ⟨"deep", .loc, zdeep⟩, ⟨"ways", .loc, zways⟩, ⟨"due", .loc, zdue⟩, ⟨"each", .loc, zeach⟩, ⟨"t", .cell, zt⟩, ⟨"column", .loc, zcolumn⟩, ⟨"seen", .cell, zseen⟩, ⟨"odd", .loc, zodd⟩, ⟨"shift", .cell, zshift⟩, ⟨"enumerate", .loc, .glob⟩, ⟨"sum", .loc, .glob⟩, ⟨"range", .loc, .glob⟩, ⟨"pretty_flags", .loc, .glob⟩, ⟨"_law_words", .loc, .glob⟩, ⟨"_law_mails", .loc, .glob⟩, ⟨"_fix_eols", .loc, .glob⟩, ⟨"_law_hooks", .loc, .glob⟩, ⟨"Whitespace", .loc, .glob⟩, ⟨"_law_worth", .loc, .glob⟩]
noncomputable def drawnAt (ns : List Int) (k s : Nat) : Nat := s + ((sl ns k).map fun x => (x % 1000000).toNat).sum
noncomputable abbrev sScr (ns : List Int) : Slot := .fz (.d (.list (ns.map .int)))
noncomputable def starts : List Int := [7, 0, 2, 17, 21, 4, 1]
noncomputable def drawnOf (ns : List Int) : List Nat := [drawnAt ns 0 7, drawnAt ns 1 0, drawnAt ns 2 2, drawnAt ns 3 17, drawnAt ns 4 21, drawnAt ns 5 4, drawnAt ns 6 1]
theorem sum_mod (l : List Int) : (l.map fun x => x % 1000000).sum = (((l.map fun x => (x % 1000000).toNat).sum : Nat) : Int) := by
  induction l with
  | nil => rfl
  | cons x l ih =>
    simp only [List.map_cons, List.sum_cons, ih]
    have : 0 ≤ x % 1000000 := Int.emod_nonneg _ (by decide)
    omega
noncomputable abbrev lSt (i : Nat) : Stmt := sAt (fbody 20 tops) i
section
variable {W : Wd} {β : Bk} {d : Nat}
variable {zscript zdrawn zk zstart zbits znumber zsaid zmail ztold ztyped zeven zhooks zlead zgap znear zfar zdeep zways zdue zeach zt zcolumn zseen zodd zshift : Slot}
theorem st0 : X1 W d (lawW zscript .unb zk zstart zbits znumber zsaid zmail ztold ztyped zeven zhooks zlead zgap znear zfar zdeep zways zdue zeach zt zcolumn zseen zodd zshift) β (lSt 0) (.next (lawW zscript (.own []) zk zstart zbits znumber zsaid zmail ztold ztyped zeven zhooks zlead zgap znear zfar zdeep zways zdue zeach zt zcolumn zseen zodd zshift)) β := X1.assignNew (xs := []) (Ev.listd Evs.nil rfl (by decide)) (by (repeat (first | exact List.mem_cons_self | refine List.mem_cons_of_mem _ ?_)))

theorem st1_body {ns : List Int} {xs : List Nat} {k s : Nat} (B : Blt W) (hn : ns.length ≤ 63) (hx : xs.length ≤ 100) :
    Ex W d (lawW (sScr ns) (.own (cInts xs)) (sInt k) (sInt s) zbits znumber zsaid zmail ztold ztyped zeven zhooks zlead zgap znear zfar zdeep zways zdue zeach zt zcolumn zseen zodd zshift) β (forBody (lSt 1)) (.next (lawW (sScr ns) (.own (cInts (xs ++ [drawnAt ns k s]))) (sInt k) (sInt s) zbits znumber zsaid zmail ztold ztyped zeven zhooks zlead zgap znear zfar zdeep zways zdue zeach zt zcolumn zseen zodd zshift)) β := by
  have hlen := sl_len ns k
  have e : cInts (xs ++ [drawnAt ns k s]) = cInts xs ++ [PyData.int (drawnAt ns k s : Int)] := by simp
  rw [e]
  refine Ex.consk _ (X1.append (x := "drawn") (l := .loc) (xs := cInts xs) (q := .int (drawnAt ns k s : Int)) (by (repeat (first | exact List.mem_cons_self | refine List.mem_cons_of_mem _ ?_))) ?_ (by simp; omega)) Ex.nil
  refine Ev.cast (Ev.bink (.int (s : Int)) (.int (((sl ns k).map fun x => x % 1000000).sum)) (Ev.var (by (repeat (first | exact List.mem_cons_self | refine List.mem_cons_of_mem _ ?_)))) ?_ Op.add) ?_
  · refine Ev.callk (ps := [.d (.list (((sl ns k).map fun x => x % 1000000).map .int))]) (by (repeat (first | exact List.mem_cons_self | refine List.mem_cons_of_mem _ ?_))) (Evs.consk (.new (((sl ns k).map fun x => x % 1000000).map .int)) ?_ Evs.nil) (Fn.b B.sum Op.sum)
    rw [List.map_map]
    refine Ev.compk (.new ((sl ns k).map .int)) ((sl ns k).map fun x => PV.d (.int x)) [⟨"x", .loc, .unb⟩] _ ?_ ?_ ?_ ?_ ?_ ?_ ?_
    · rw [← pick_sl]
      exact Ev.slice (r := .val (.d (.list (ns.map .int)))) (Ev.var (by (repeat (first | exact List.mem_cons_self | refine List.mem_cons_of_mem _ ?_)))) rfl (EvP.some (Ev.var (by (repeat (first | exact List.mem_cons_self | refine List.mem_cons_of_mem _ ?_))))) (EvP.some Ev.int) (EvP.some Ev.int) (by decide) (by simp; omega)
    · have := Items.list (W := W) (ds := (sl ns k).map .int)
      rwa [List.map_map] at this
    · exact .skip (by simp) (.skip (by simp) .nil)
    · exact .loc ⟨by decide, by decide⟩ (by decide) .nil
    · refine RunsS.elt0 (α := Int) _ (fun (x : Int) => [⟨"x", .loc, .fz (.d (.int x))⟩]) _ (sl ns k) ?_ ?_
      · intro x hx
        exact .name (by (repeat (first | exact List.mem_cons_self | refine List.mem_cons_of_mem _ ?_))) (by simp) (by simp)
      · intro x hx
        refine Ev.bink (.int x) (.int 1000000) (Ev.var (by (repeat (first | exact List.mem_cons_self | refine List.mem_cons_of_mem _ ?_)))) ?_ (Op.mod (by decide))
        exact Ev.cast (Ev.bink (.int 10) (.int 6) Ev.int Ev.int (Op.pow (by decide) (by decide +kernel))) rfl
    · (refine Free.name ?_; intro v hv e; simp only [List.mem_cons, List.not_mem_nil, or_false] at hv; (repeat (cases hv with | inl h => (subst h; first | rfl | (exfalso; simp at e)) | inr hv => ?_)); all_goals (subst hv; first | rfl | (exfalso; simp at e)))
    · simp; omega
  · show Res.int _ = Res.int _
    rw [sum_mod]
    unfold drawnAt
    simp

theorem st1 {ns : List Int} (B : Blt W) (hn : ns.length ≤ 63) (hk : zk ≠ .glob) (hs : zstart ≠ .glob) :
    X1 W d (lawW (sScr ns) (.own []) zk zstart zbits znumber zsaid zmail ztold ztyped zeven zhooks zlead zgap znear zfar zdeep zways zdue zeach zt zcolumn zseen zodd zshift) β (lSt 1) (.next (lawW (sScr ns) (.own (cInts (drawnOf ns))) .unb .unb zbits znumber zsaid zmail ztold ztyped zeven zhooks zlead zgap znear zfar zdeep zways zdue zeach zt zcolumn zseen zodd zshift)) β := by
  have one : ∀ (k s : Nat) (xs : List Nat) (zk zstart : Slot), zk ≠ .glob → zstart ≠ .glob → xs.length ≤ 100 → ∀ {ps : List PV} {fe : FE}, ForRun W d (forTarget (lSt 1)) (forBody (lSt 1)) (lawW (sScr ns) (.own (cInts (xs ++ [drawnAt ns k s]))) .unb .unb zbits znumber zsaid zmail ztold ztyped zeven zhooks zlead zgap znear zfar zdeep zways zdue zeach zt zcolumn zseen zodd zshift) β ps fe β →
      ForRun W d (forTarget (lSt 1)) (forBody (lSt 1)) (lawW (sScr ns) (.own (cInts xs)) zk zstart zbits znumber zsaid zmail ztold ztyped zeven zhooks zlead zgap znear zfar zdeep zways zdue zeach zt zcolumn zseen zodd zshift) β (.d (.tuple [.int (k : Int), .int (s : Int)]) :: ps) fe β := fun k s xs zk zstart hk hs hx ps fe r => by
    refine .cons (σ1 := (lawW (sScr ns) (.own (cInts xs)) (sInt k) (sInt s) zbits znumber zsaid zmail ztold ztyped zeven zhooks zlead zgap znear zfar zdeep zways zdue zeach zt zcolumn zseen zodd zshift)) (.tuple (.cons (l := .loc) (sl := zk) (by (repeat (first | exact List.mem_cons_self | refine List.mem_cons_of_mem _ ?_))) (by simp) hk (.cons (l := .loc) (sl := zstart) (by (repeat (first | exact List.mem_cons_self | refine List.mem_cons_of_mem _ ?_))) (by simp) hs .nil))) ?_ r
    exact Ex.post (st1_body B hn hx) (Gh.ff (by (repeat (first | exact FF.nil | refine FF.keep ?_ | refine FF.drop ?_ ?_ | simp))))
  have loop : ForRun W d (forTarget (lSt 1)) (forBody (lSt 1)) (lawW (sScr ns) (.own []) zk zstart zbits znumber zsaid zmail ztold ztyped zeven zhooks zlead zgap znear zfar zdeep zways zdue zeach zt zcolumn zseen zodd zshift) β (pairsI starts) (.done (lawW (sScr ns) (.own (cInts (drawnOf ns))) .unb .unb zbits znumber zsaid zmail ztold ztyped zeven zhooks zlead zgap znear zfar zdeep zways zdue zeach zt zcolumn zseen zodd zshift)) β := by
    refine one 0 7 [] _ _ hk hs (by simp) (one 1 0 _ _ _ (by simp) (by simp) (by simp) (one 2 2 _ _ _ (by simp) (by simp) (by simp) (one 3 17 _ _ _ (by simp) (by simp) (by simp) (one 4 21 _ _ _ (by simp) (by simp) (by simp) (one 5 4 _ _ _ (by simp) (by simp) (by simp) (one 6 1 _ _ _ (by simp) (by simp) (by simp) .nil))))))
  refine X1.forEnum (l := .loc) (ns := starts) B.enum (by (repeat (first | exact List.mem_cons_self | refine List.mem_cons_of_mem _ ?_))) ?_ loop
  refine Ev.listd (xs := starts.map .int) (ps := [.d (.int 7), .d (.int 0), .d (.int 2), .d (.int 17), .d (.int 21), .d (.int 4), .d (.int 1)]) ?_ rfl (by decide)
  exact Evs.consk (.int 7) Ev.int (Evs.consk (.int 0) Ev.int (Evs.consk (.int 2) Ev.int (Evs.consk (.int 17) Ev.int (Evs.consk (.int 21) Ev.int (Evs.consk (.int 4) Ev.int (Evs.consk (.int 1) Ev.int Evs.nil))))))
end
end
section
set_option maxRecDepth 20000

structure GLaw (W : Wd) (K : Frag) (C : Addr) : Prop where
  ws : GWs W K C
  m : GMail W
  tabs : Tabs W
  fix : GDef W "_fix_eols" 12 ["data"]
  pretty : GDef W "pretty_flags" 6 ["flags"]
  mails : GDef W "_law_mails" 17 ["drawn", "said"]
  hooks : GDef W "_law_hooks" 18 ["mail"]
  worth : GDef W "_law_worth" 19 ["number", "book"]
  sys : ∃ b o, W.h0.get? b = some o ∧ sysModules < b
theorem natSum (l : List Nat) : (l.map fun (k : Nat) => (k : Int)).sum = ((l.sum : Nat) : Int) := by
  induction l with
  | nil => rfl
  | cons x l ih => simp only [List.map_cons, List.sum_cons, ih]; omega
theorem cInts_eq (l : List Nat) : cInts l = (l.map fun (k : Nat) => (k : Int)).map .int := by rw [List.map_map]; rfl
theorem cInts_map {α : Type} (f : α → Nat) (l : List α) : cInts (l.map f) = l.map fun a => PyData.int ((f a : Nat) : Int) := by unfold cInts; rw [List.map_map]; rfl
noncomputable def bitsOf (ds : List Nat) : List Nat := ds.map (· % 2)
noncomputable def numOf (bits : List Nat) : Nat := ((List.range 7).map fun k => bits.getD k 0 * 2 ^ k).sum
noncomputable def onOf (bits : List Nat) : List Nat := (List.range 7).filter fun k => bits.getD k 0 == 1
noncomputable abbrev sBits (bits : List Nat) : Slot := sNats bits
section
variable {W : Wd} {K : Frag} {C : Addr} {β : Bk} {d : Nat}
variable {zscript zdrawn zk zstart zbits znumber zsaid zmail ztold ztyped zeven zhooks zlead zgap znear zfar zdeep zways zdue zeach zt zcolumn zseen zodd zshift : Slot}
theorem ev_sum {σ : Vars} {l : List Nat} {e : Expr} {np pos : Pos} {lo : Loc} {r : Res} (B : Blt W) (hs : (⟨"sum", lo, .glob⟩ : Var) ∈ σ) (a : Ev W d σ β e r β) (hr : r.pv = .d (dInts l)) (hst : ([e]).all (fun e => !isStarred e) = true := by rfl) (he : ∀ env, starEach [e] env = (false, eval e env) :: starEach [] env := by intro _; rfl) :
    Ev W d σ β (.Call (.Name (Str.ofString "sum") np) [e] [] pos) (.int (l.sum : Int)) β := by
  refine Ev.cast (Ev.callk (ps := [.d (.list ((l.map fun (k : Nat) => (k : Int)).map .int))]) hs ?_ (Fn.b B.sum Op.sum) hst) (by rw [natSum])
  rw [← cInts_eq]
  show Evs W d σ β [e] [.d (dInts l)] β
  rw [← hr]
  exact Evs.consk r a Evs.nil he

theorem st2 {ds : List Nat} (hz : zbits ≠ .glob) (h7 : ds.length ≤ 1000) : X1 W d (lawW zscript (sNats ds) zk zstart zbits znumber zsaid zmail ztold ztyped zeven zhooks zlead zgap znear zfar zdeep zways zdue zeach zt zcolumn zseen zodd zshift) β (lSt 2) (.next (lawW zscript (sNats ds) zk zstart (sBits (bitsOf ds)) znumber zsaid zmail ztold ztyped zeven zhooks zlead zgap znear zfar zdeep zways zdue zeach zt zcolumn zseen zodd zshift)) β := by
  refine X1.assignCell (r := .new (cInts (bitsOf ds))) ?_ (by (repeat (first | exact List.mem_cons_self | refine List.mem_cons_of_mem _ ?_))) hz (fun env h => swaps_false h)
  rw [show cInts (bitsOf ds) = ds.map fun (k : Nat) => PyData.int ((k % 2 : Nat) : Int) from cInts_map ..]
  refine Ev.compk (.dat (dInts ds)) (pInts ds) [⟨"d", .loc, .unb⟩] _ ?_ ?_ ?_ ?_ ?_ ?_ ?_
  · exact Ev.var (by (repeat (first | exact List.mem_cons_self | refine List.mem_cons_of_mem _ ?_)))
  · exact items_ints ds
  · exact .skip (by simp) (.skip (by simp) .nil)
  · exact .loc ⟨by decide, by decide⟩ (by decide) .nil
  · refine RunsS.elt0 (α := Nat) _ (fun (k : Nat) => [⟨"d", .loc, .fz (.d (.int (k : Int)))⟩]) _ ds ?_ ?_
    · intro k hk
      exact .name (by (repeat (first | exact List.mem_cons_self | refine List.mem_cons_of_mem _ ?_))) (by simp) (by simp)
    · intro k hk
      exact Ev.cast (Ev.bink (.int (k : Int)) (.int 2) (Ev.var (by (repeat (first | exact List.mem_cons_self | refine List.mem_cons_of_mem _ ?_)))) Ev.int (Op.mod (by omega))) (by simp)
  · (refine Free.name ?_; intro v hv e; simp only [List.mem_cons, List.not_mem_nil, or_false] at hv; (repeat (cases hv with | inl h => (subst h; first | rfl | (exfalso; simp at e)) | inr hv => ?_)); all_goals (subst hv; first | rfl | (exfalso; simp at e)))
  · simp; omega

theorem st3 {bits : List Nat} (B : Blt W) (h7 : bits.length = 7) (hz : znumber ≠ .glob) : X1 W d (lawW zscript zdrawn zk zstart (sBits bits) znumber zsaid zmail ztold ztyped zeven zhooks zlead zgap znear zfar zdeep zways zdue zeach zt zcolumn zseen zodd zshift) β (lSt 3) (.next (lawW zscript zdrawn zk zstart (sBits bits) (sInt (numOf bits)) zsaid zmail ztold ztyped zeven zhooks zlead zgap znear zfar zdeep zways zdue zeach zt zcolumn zseen zodd zshift)) β := by
  refine X1.assign (r := .int (numOf bits : Int)) ?_ (by (repeat (first | exact List.mem_cons_self | refine List.mem_cons_of_mem _ ?_))) (by simp) hz
  refine ev_sum (l := (List.range 7).map fun k => bits.getD k 0 * 2 ^ k) (r := .new (cInts ((List.range 7).map fun k => bits.getD k 0 * 2 ^ k))) B (by (repeat (first | exact List.mem_cons_self | refine List.mem_cons_of_mem _ ?_))) ?_ rfl
  rw [show cInts ((List.range 7).map fun k => bits.getD k 0 * 2 ^ k) = (List.range 7).map fun k => PyData.int ((bits.getD k 0 * 2 ^ k : Nat) : Int) from cInts_map ..]
  refine Ev.compk (.val (.rng 0 ((7 : Nat) : Int) 1)) (pInts (List.range 7)) [⟨"k", .loc, .unb⟩, ⟨"bits", .free, sBits bits⟩] _ ?_ ?_ ?_ ?_ ?_ ?_ ?_
  · exact Ev.callk (ps := [.d (.int 7)]) (by (repeat (first | exact List.mem_cons_self | refine List.mem_cons_of_mem _ ?_))) (Evs.consk (.int 7) Ev.int Evs.nil) (Fn.t B.range Op.range1)
  · exact Items.range' 7 (by omega)
  · (repeat (first | exact FreeOk.nil | (refine FreeOk.skip ?_ ?_; decide) | (apply FreeOk.free; (repeat (first | exact List.mem_cons_self | refine List.mem_cons_of_mem _ ?_)); (intro h; nomatch h))))
  · (repeat (first | exact CV.nil | (refine CV.loc ?_ ?_ ?_; (exact ⟨by decide, by decide⟩); (decide)) | (refine CV.glob ?_ ?_ ?_; (exact ⟨by decide, by decide⟩); (decide)) | (apply CV.free; (repeat (first | exact List.mem_cons_self | refine List.mem_cons_of_mem _ ?_)); (intro h; nomatch h); (decide)) | (refine CV.cell ?_ ?_ ?_; (exact ⟨by decide, by decide⟩); (decide))))
  · refine RunsS.elt0 (α := Nat) _ (fun (k : Nat) => [⟨"k", .loc, sInt k⟩, ⟨"bits", .free, sBits bits⟩]) _ (List.range 7) ?_ ?_
    · intro k hk
      exact .name (by (repeat (first | exact List.mem_cons_self | refine List.mem_cons_of_mem _ ?_))) (by simp) (by simp)
    · intro k hk
      have hk7 := List.mem_range.mp hk
      refine Ev.cast (Ev.bink (.int ((bits.getD k 0 : Nat) : Int)) (.int ((2 ^ k : Nat) : Int)) ?_ (ev_pow2 (l := .loc) (k := k) (by (repeat (first | exact List.mem_cons_self | refine List.mem_cons_of_mem _ ?_))) (by omega)) (Op.mul ?_)) (by simp)
      · exact Ev.subk (.dat (dInts bits)) (.int (k : Int)) (Ev.var (by (repeat (first | exact List.mem_cons_self | refine List.mem_cons_of_mem _ ?_)))) (Ev.var (by (repeat (first | exact List.mem_cons_self | refine List.mem_cons_of_mem _ ?_)))) (Op.item (by omega) (by omega) (at_ints bits k (by omega) _ rfl))
      · refine .of_right (intBits_nat ?_)
        calc 2 ^ k ≤ 2 ^ 7 := Nat.pow_le_pow_right (by omega) (by omega)
          _ < _ := by decide
  · (refine Free.name ?_; intro v hv e; simp only [List.mem_cons, List.not_mem_nil, or_false] at hv; (repeat (cases hv with | inl h => (subst h; first | rfl | (exfalso; simp at e)) | inr hv => ?_)); all_goals (subst hv; first | rfl | (exfalso; simp at e)))
  · simp

theorem st4 {n : Nat} (G : GLaw W K C) (hn : n < 128) (hz : zsaid ≠ .glob) : X1 W (d + 3) (lawW zscript zdrawn zk zstart zbits (sInt n) zsaid zmail ztold ztyped zeven zhooks zlead zgap znear zfar zdeep zways zdue zeach zt zcolumn zseen zodd zshift) β (lSt 4) (.next (lawW zscript zdrawn zk zstart zbits (sInt n) (sStr (prettyS n)) zmail ztold ztyped zeven zhooks zlead zgap znear zfar zdeep zways zdue zeach zt zcolumn zseen zodd zshift)) β := by
  refine X1.assign (r := .str (prettyS n)) ?_ (by (repeat (first | exact List.mem_cons_self | refine List.mem_cons_of_mem _ ?_))) (by simp) hz
  exact Ev.callk (ps := [.d (.int (n : Int))]) (by (repeat (first | exact List.mem_cons_self | refine List.mem_cons_of_mem _ ?_))) (Evs.consk (.int (n : Int)) (Ev.var (by (repeat (first | exact List.mem_cons_self | refine List.mem_cons_of_mem _ ?_)))) Evs.nil) (pretty_fn G.pretty G.m.b G.tabs (by omega))
end
end
section
set_option maxRecDepth 20000

theorem mulC (c k : Nat) : (Txt.mul ⟨#[c]⟩ (k : Int)).cps.toList = List.replicate k c := by
  unfold Txt.mul
  by_cases h1 : ((k : Int)) < 1
  · rw [if_pos h1]
    have : k = 0 := by omega
    subst this; rfl
  · rw [if_neg h1]
    split
    · rename_i h
      have : k = 1 := by
        have h' : ((k : Int) == 1 || (1 : Nat) == 0) = true := h
        have h2 : (k : Int) = 1 := by simpa using h'
        omega
      subst this; rfl
    · have key : ∀ (k : Nat) (a : Array Nat), ((List.replicate k (#[c] : Array Nat)).foldl (· ++ ·) a).toList = a.toList ++ List.replicate k c := by
        intro k
        induction k with
        | zero => intro a; simp
        | succ k ih =>
          intro a
          rw [List.replicate_succ, List.foldl_cons, ih, List.replicate_succ]
          simp
      show (((List.replicate (k : Int).toNat (#[c] : Array Nat)).foldl (· ++ ·) #[] : Array Nat)).toList = _
      rw [key]; simp
theorem mulC_len (c k : Nat) : (Txt.mul ⟨#[c]⟩ (k : Int)).length = k := by
  show (Txt.mul ⟨#[c]⟩ (k : Int)).cps.size = k
  rw [← Array.length_toList, mulC, List.length_replicate]
theorem mulC_le (c : Nat) (k : Int) (n : Nat) (h : k ≤ n) : (Txt.mul ⟨#[c]⟩ k).length ≤ n := by
  rcases Int.lt_or_le k 0 with h0 | h0
  · unfold Txt.mul
    rw [if_pos (by omega)]
    exact Nat.zero_le _
  · obtain ⟨m, rfl⟩ := Int.eq_ofNat_of_zero_le h0
    rw [show ((m : Nat) : Int) = (m : Int) from rfl]
    have := mulC_len c m
    omega
noncomputable def leadL (hk : List Nat) : List Str := hk.map fun (h : Nat) => Txt.mul " " ((h : Int) - 1) ++ Str.ofString "\t"
noncomputable def farL (hk : List Nat) : List Str := hk.map fun (h : Nat) => Txt.mul " " (h : Int) ++ Str.ofString "\t"
noncomputable def nearS (hk : List Nat) (gap : Nat) : Str := (Txt.join "" (leadL hk) ++ Txt.mul " " (gap : Int)) ++ Str.ofString "x"
noncomputable def farS (hk : List Nat) (gap : Nat) : Str := (Txt.join "" (farL hk) ++ Txt.mul " " (gap : Int)) ++ Str.ofString "x \t"
noncomputable def deepS (hk : List Nat) : Str := (Txt.join "" (leadL hk) ++ Txt.mul " " 6) ++ Str.ofString "x"
theorem join0_len (l : List Str) : (Txt.join "" l).length = (l.map (·.length)).sum := by
  show (Txt.join "" l).cps.size = _
  rw [← Array.length_toList, join_flat, List.length_flatten, List.map_map]
  rfl
theorem sum_le_mul (l : List Str) (B : Nat) (h : ∀ x ∈ l, x.length ≤ B) : (l.map (·.length)).sum ≤ l.length * B := by
  induction l with
  | nil => simp
  | cons x l ih =>
    simp only [List.map_cons, List.sum_cons, List.length_cons]
    have h1 := h x List.mem_cons_self
    have h2 := ih fun y hy => h y (List.mem_cons_of_mem _ hy)
    rw [Nat.succ_mul]; omega
theorem leadL_len {hk : List Nat} (hb : ∀ h ∈ hk, h ≤ 64) : ∀ x ∈ leadL hk, x.length ≤ 65 := fun x hx => by
  obtain ⟨h, hm, rfl⟩ := List.mem_map.mp hx
  have := hb h hm
  have l1 := mulC_le 32 ((h : Int) - 1) 64 (by omega)
  rw [Str.length_append']
  have : (Str.ofString "\t").length = 1 := rfl
  show (Txt.mul ⟨#[32]⟩ ((h : Int) - 1)).length + _ ≤ _
  omega
theorem farL_len {hk : List Nat} (hb : ∀ h ∈ hk, h ≤ 64) : ∀ x ∈ farL hk, x.length ≤ 65 := fun x hx => by
  obtain ⟨h, hm, rfl⟩ := List.mem_map.mp hx
  have := hb h hm
  have l1 := mulC_le 32 (h : Int) 64 (by omega)
  rw [Str.length_append']
  have : (Str.ofString "\t").length = 1 := rfl
  show (Txt.mul ⟨#[32]⟩ (h : Int)).length + _ ≤ _
  omega
section
variable {W : Wd} {K : Frag} {C : Addr} {β : Bk} {d : Nat}
variable {zscript zdrawn zk zstart zbits znumber zsaid zmail ztold ztyped zeven zhooks zlead zgap znear zfar zdeep zways zdue zeach zt zcolumn zseen zodd zshift : Slot}
theorem on_lt (bits : List Nat) : ∀ k ∈ onOf bits, k < 7 := fun k hk => List.mem_range.mp (List.mem_filter.mp hk).1
theorem on_len (bits : List Nat) : (onOf bits).length ≤ 7 := Nat.le_trans (List.length_filter_le _ _) (by simp)
theorem st5 {bits : List Nat} {x : Str} (G : GLaw W K C) (h7 : bits.length = 7) (he : x = wordS (onOf bits)) : X1 W (d + 3) (lawW zscript zdrawn zk zstart (sBits bits) znumber (sStr x) zmail ztold ztyped zeven zhooks zlead zgap znear zfar zdeep zways zdue zeach zt zcolumn zseen zodd zshift) β (lSt 5) (.next (lawW zscript zdrawn zk zstart (sBits bits) znumber (sStr x) zmail ztold ztyped zeven zhooks zlead zgap znear zfar zdeep zways zdue zeach zt zcolumn zseen zodd zshift)) β := by
  have hh : highOf (onOf bits) = 0 := by
    unfold highOf
    rw [List.filter_eq_nil_iff.mpr fun k hk => by have := on_lt bits k hk; simp; omega]; rfl
  refine X1.ite (b := false) (β1 := β) (Et.cast (Et.cmpk (.str x) (.str (wordS (onOf bits))) (Ev.var (by (repeat (first | exact List.mem_cons_self | refine List.mem_cons_of_mem _ ?_)))) ?_ Op.nes) ?_) (fun z => by cases z) fun _ => Ex.nil
  · refine Ev.callk (ps := [.d (dInts (onOf bits))]) (by (repeat (first | exact List.mem_cons_self | refine List.mem_cons_of_mem _ ?_))) (Evs.consk (.new (cInts (onOf bits))) ?_ Evs.nil) (words_fn G.m.words G.m.b (fun k hk => by have := on_lt bits k hk; omega) (by have := on_len bits; omega) (by omega))
    refine Ev.compk (.val (.rng 0 ((7 : Nat) : Int) 1)) (pInts (List.range 7)) [⟨"k", .loc, .unb⟩, ⟨"bits", .free, sBits bits⟩] _ ?_ ?_ ?_ ?_ ?_ ?_ ?_
    · exact Ev.callk (ps := [.d (.int 7)]) (by (repeat (first | exact List.mem_cons_self | refine List.mem_cons_of_mem _ ?_))) (Evs.consk (.int 7) Ev.int Evs.nil) (Fn.t G.m.b.range Op.range1)
    · exact Items.range' 7 (by omega)
    · (repeat (first | exact FreeOk.nil | (refine FreeOk.skip ?_ ?_; decide) | (apply FreeOk.free; (repeat (first | exact List.mem_cons_self | refine List.mem_cons_of_mem _ ?_)); (intro h; nomatch h))))
    · (repeat (first | exact CV.nil | (refine CV.loc ?_ ?_ ?_; (exact ⟨by decide, by decide⟩); (decide)) | (refine CV.glob ?_ ?_ ?_; (exact ⟨by decide, by decide⟩); (decide)) | (apply CV.free; (repeat (first | exact List.mem_cons_self | refine List.mem_cons_of_mem _ ?_)); (intro h; nomatch h); (decide)) | (refine CV.cell ?_ ?_ ?_; (exact ⟨by decide, by decide⟩); (decide))))
    · refine RunsS.elt (α := Nat) _ (fun (k : Nat) => [⟨"k", .loc, sInt k⟩, ⟨"bits", .free, sBits bits⟩]) (fun k => bits.getD k 0 == 1) _ (List.range 7) ?_ ?_ ?_
      · intro k hk
        exact .name (by (repeat (first | exact List.mem_cons_self | refine List.mem_cons_of_mem _ ?_))) (by simp) (by simp)
      · intro k hk
        have hk7 := List.mem_range.mp hk
        refine .one (Et.cast (Et.cmpk (.int ((bits.getD k 0 : Nat) : Int)) (.int 1) ?_ Ev.int Op.eq) ?_)
        · exact Ev.subk (.dat (dInts bits)) (.int (k : Int)) (Ev.var (by (repeat (first | exact List.mem_cons_self | refine List.mem_cons_of_mem _ ?_)))) (Ev.var (by (repeat (first | exact List.mem_cons_self | refine List.mem_cons_of_mem _ ?_)))) (Op.item (by omega) (by omega) (at_ints bits k (by omega) _ rfl))
        · rw [Bool.eq_iff_iff, beq_iff_eq, beq_iff_eq]; omega
      · intro k hk _
        exact Ev.var (by (repeat (first | exact List.mem_cons_self | refine List.mem_cons_of_mem _ ?_)))
    · (refine Free.name ?_; intro v hv e; simp only [List.mem_cons, List.not_mem_nil, or_false] at hv; (repeat (cases hv with | inl h => (subst h; first | rfl | (exfalso; simp at e)) | inr hv => ?_)); all_goals (subst hv; first | rfl | (exfalso; simp at e)))
    · have := on_len bits
      show (cInts (onOf bits)).length ≤ _
      simp; omega
  · rw [he]; simp

theorem st6 {ds : List Nat} {x : Str} {sd : List Str} {m : Mails} (G : GLaw W K C) (h7 : ds.length = 7) (hx : x.length ≤ 2 ^ 20) (hsd : Txt.split x ", " = sd) (hs : ∀ y ∈ sd, PyData.strOk y = true) (hm : mailsOf ds sd = m) (h1 : zmail ≠ .glob) (h2 : ztold ≠ .glob) (h3 : ztyped ≠ .glob) (h4 : zeven ≠ .glob) :
    X1 W (d + 3) (lawW zscript (sNats ds) zk zstart zbits znumber (sStr x) zmail ztold ztyped zeven zhooks zlead zgap znear zfar zdeep zways zdue zeach zt zcolumn zseen zodd zshift) β (lSt 6) (.next (lawW zscript (sNats ds) zk zstart zbits znumber (sStr x) (sStr m.mail) (sStr m.told) (sStr m.typed) (sStr m.even) zhooks zlead zgap znear zfar zdeep zways zdue zeach zt zcolumn zseen zodd zshift)) β := by
  refine X1.unpack (r := .dat (.tuple [.str m.mail, .str m.told, .str m.typed, .str m.even])) (ds := [.str m.mail, .str m.told, .str m.typed, .str m.even]) ?_ rfl (.cons (l := .loc) (sl := zmail) (by (repeat (first | exact List.mem_cons_self | refine List.mem_cons_of_mem _ ?_))) (by simp) h1 (.cons (l := .loc) (sl := ztold) (by (repeat (first | exact List.mem_cons_self | refine List.mem_cons_of_mem _ ?_))) (by simp) h2 (.cons (l := .loc) (sl := ztyped) (by (repeat (first | exact List.mem_cons_self | refine List.mem_cons_of_mem _ ?_))) (by simp) h3 (.cons (l := .loc) (sl := zeven) (by (repeat (first | exact List.mem_cons_self | refine List.mem_cons_of_mem _ ?_))) (by simp) h4 .nil))))
  subst hsd
  subst hm
  refine Ev.callk (ps := [.d (dInts ds), .d (.list ((Txt.split x ", ").map .str))]) (by (repeat (first | exact List.mem_cons_self | refine List.mem_cons_of_mem _ ?_))) (Evs.consk (.dat (dInts ds)) (Ev.var (by (repeat (first | exact List.mem_cons_self | refine List.mem_cons_of_mem _ ?_)))) (Evs.consk (.dat (.list ((Txt.split x ", ").map .str))) ?_ Evs.nil)) (mails_fn G.mails G.m h7 hs)
  exact Ev.meth (p := .str x) (β1 := β) (β2 := β) (ps := [.d (.str ", ")]) (Ev.var (by (repeat (first | exact List.mem_cons_self | refine List.mem_cons_of_mem _ ?_)))) (Evs.consk (.str ", ") Ev.str Evs.nil) (Mt.split (by decide) (by omega))

theorem st7 {m : Mails} (G : GLaw W K C) (h1 : m.mail = m.told) (h2 : fixS m.typed = m.even) (hl : m.typed.length ≤ 2 ^ 18) :
    X1 W (d + 3) (lawW zscript zdrawn zk zstart zbits znumber zsaid (sStr m.mail) (sStr m.told) (sStr m.typed) (sStr m.even) zhooks zlead zgap znear zfar zdeep zways zdue zeach zt zcolumn zseen zodd zshift) β (lSt 7) (.next (lawW zscript zdrawn zk zstart zbits znumber zsaid (sStr m.mail) (sStr m.told) (sStr m.typed) (sStr m.even) zhooks zlead zgap znear zfar zdeep zways zdue zeach zt zcolumn zseen zodd zshift)) β := by
  refine X1.ite (b := false) (β1 := β) (Et.cast (Et.or' (a := false) (b := false) (Et.cast (Et.cmpk (.str m.mail) (.str m.told) (Ev.var (by (repeat (first | exact List.mem_cons_self | refine List.mem_cons_of_mem _ ?_)))) (Ev.var (by (repeat (first | exact List.mem_cons_self | refine List.mem_cons_of_mem _ ?_)))) Op.nes) (by rw [h1]; simp)) fun _ => Et.cast (Et.cmpk (.str (fixS m.typed)) (.str m.even) ?_ (Ev.var (by (repeat (first | exact List.mem_cons_self | refine List.mem_cons_of_mem _ ?_)))) Op.nes) (by rw [h2]; simp)) rfl) (fun z => by cases z) fun _ => Ex.nil
  exact Ev.callk (ps := [.d (.str m.typed)]) (by (repeat (first | exact List.mem_cons_self | refine List.mem_cons_of_mem _ ?_))) (Evs.consk (.str m.typed) (Ev.var (by (repeat (first | exact List.mem_cons_self | refine List.mem_cons_of_mem _ ?_)))) Evs.nil) (fix_fn G.fix G.m.pats hl)

theorem st8 {x : Str} {hk : List Nat} (G : GLaw W K C) (hx : x.length ≤ 2 ^ 17) (h1 : (Txt.split (fixS x) "\r\n").length ≤ 1000) (h2 : ∀ y ∈ Txt.split (fixS x) "\r\n", y.length ≤ 1000) (hh : hooksOf ((rowsOf (fixS x)).map dotsIn) = hk) (hz : zhooks ≠ .glob) :
    X1 W (d + 3) (lawW zscript zdrawn zk zstart zbits znumber zsaid (sStr x) ztold ztyped zeven zhooks zlead zgap znear zfar zdeep zways zdue zeach zt zcolumn zseen zodd zshift) β (lSt 8) (.next (lawW zscript zdrawn zk zstart zbits znumber zsaid (sStr x) ztold ztyped zeven (sNats hk) zlead zgap znear zfar zdeep zways zdue zeach zt zcolumn zseen zodd zshift)) β := by
  subst hh
  have hl := fixS_len x
  refine X1.assign (r := .dat (dInts (hooksOf ((rowsOf (fixS x)).map dotsIn)))) ?_ (by (repeat (first | exact List.mem_cons_self | refine List.mem_cons_of_mem _ ?_))) (by simp) hz
  refine Ev.callk (ps := [.d (.str (fixS x))]) (by (repeat (first | exact List.mem_cons_self | refine List.mem_cons_of_mem _ ?_))) (Evs.consk (.str (fixS x)) ?_ Evs.nil) (hooks_fn G.hooks G.m.b (by omega) h1 h2)
  exact Ev.callk (ps := [.d (.str x)]) (by (repeat (first | exact List.mem_cons_self | refine List.mem_cons_of_mem _ ?_))) (Evs.consk (.str x) (Ev.var (by (repeat (first | exact List.mem_cons_self | refine List.mem_cons_of_mem _ ?_)))) Evs.nil) (fix_fn G.fix G.m.pats (by omega))

theorem st10 {ds : List Nat} (B : Blt W) (hz : zgap ≠ .glob) : X1 W d (lawW zscript (sNats ds) zk zstart zbits znumber zsaid zmail ztold ztyped zeven zhooks zlead zgap znear zfar zdeep zways zdue zeach zt zcolumn zseen zodd zshift) β (lSt 10) (.next (lawW zscript (sNats ds) zk zstart zbits znumber zsaid zmail ztold ztyped zeven zhooks zlead (sInt (ds.sum % 3)) znear zfar zdeep zways zdue zeach zt zcolumn zseen zodd zshift)) β := by
  refine X1.assign (r := .int ((ds.sum % 3 : Nat) : Int)) ?_ (by (repeat (first | exact List.mem_cons_self | refine List.mem_cons_of_mem _ ?_))) (by simp) hz
  exact Ev.cast (Ev.bink (.int (ds.sum : Int)) (.int 3) (ev_sum (l := ds) (r := .dat (dInts ds)) B (by (repeat (first | exact List.mem_cons_self | refine List.mem_cons_of_mem _ ?_))) (Ev.var (by (repeat (first | exact List.mem_cons_self | refine List.mem_cons_of_mem _ ?_)))) rfl) Ev.int (Op.mod (by decide))) (by simp)

theorem st9 {hk : List Nat} (hb : ∀ h ∈ hk, h ≤ 64) (hc : hk.length ≤ 100) (hz : zlead ≠ .glob) : X1 W d (lawW zscript zdrawn zk zstart zbits znumber zsaid zmail ztold ztyped zeven (sNats hk) zlead zgap znear zfar zdeep zways zdue zeach zt zcolumn zseen zodd zshift) β (lSt 9) (.next (lawW zscript zdrawn zk zstart zbits znumber zsaid zmail ztold ztyped zeven (sNats hk) (sStr (Txt.join "" (leadL hk))) zgap znear zfar zdeep zways zdue zeach zt zcolumn zseen zodd zshift)) β := by
  refine X1.assign (r := .str (Txt.join "" (leadL hk))) ?_ (by (repeat (first | exact List.mem_cons_self | refine List.mem_cons_of_mem _ ?_))) (by simp) hz
  have hlen := leadL_len hb
  have hl2 : (leadL hk).length = hk.length := List.length_map _
  refine Ev.meth (p := .str "") (β1 := β) (β2 := β) (ps := [.d (.list ((leadL hk).map .str))]) Ev.str (Evs.consk (.new ((leadL hk).map .str)) ?_ Evs.nil) (Mt.join ?_)
  · unfold leadL
    rw [List.map_map]
    refine Ev.compk (.dat (dInts hk)) (pInts hk) [⟨"h", .loc, .unb⟩] _ ?_ ?_ ?_ ?_ ?_ ?_ ?_
    · exact Ev.var (by (repeat (first | exact List.mem_cons_self | refine List.mem_cons_of_mem _ ?_)))
    · exact items_ints hk
    · (repeat (first | exact FreeOk.nil | (refine FreeOk.skip ?_ ?_; decide) | (apply FreeOk.free; (repeat (first | exact List.mem_cons_self | refine List.mem_cons_of_mem _ ?_)); (intro h; nomatch h))))
    · (repeat (first | exact CV.nil | (refine CV.loc ?_ ?_ ?_; (exact ⟨by decide, by decide⟩); (decide)) | (refine CV.glob ?_ ?_ ?_; (exact ⟨by decide, by decide⟩); (decide)) | (apply CV.free; (repeat (first | exact List.mem_cons_self | refine List.mem_cons_of_mem _ ?_)); (intro h; nomatch h); (decide)) | (refine CV.cell ?_ ?_ ?_; (exact ⟨by decide, by decide⟩); (decide))))
    · refine RunsS.elt0 (α := Nat) _ (fun (k : Nat) => [⟨"h", .loc, sInt k⟩]) _ hk ?_ ?_
      · intro k hk'
        exact .name (by (repeat (first | exact List.mem_cons_self | refine List.mem_cons_of_mem _ ?_))) (by simp) (by simp)
      · intro k hk'
        have hk64 := hb k hk'
        have l1 := mulC_le 32 ((k : Int) - 1) 64 (by omega)
        refine Ev.bink (.str (Txt.mul " " ((k : Int) - 1))) (.str "\t") ?_ Ev.str (Op.adds ?_)
        · refine Ev.bink (.str " ") (.int ((k : Int) - 1)) Ev.str ?_ (Op.muls 1 64 (by decide) (by omega) (by omega) (by decide) (by decide))
          exact Ev.bink (.int (k : Int)) (.int 1) (Ev.var (by (repeat (first | exact List.mem_cons_self | refine List.mem_cons_of_mem _ ?_)))) Ev.int Op.sub
        · show (Txt.mul ⟨#[32]⟩ ((k : Int) - 1)).length + _ ≤ _
          have : (Str.ofString "\t").length = 1 := rfl
          omega
    · (refine Free.name ?_; intro v hv e; simp only [List.mem_cons, List.not_mem_nil, or_false] at hv; (repeat (cases hv with | inl h => (subst h; first | rfl | (exfalso; simp at e)) | inr hv => ?_)); all_goals (subst hv; first | rfl | (exfalso; simp at e)))
    · simp; omega
  · have := sum_le_mul _ 65 hlen
    rw [show (Str.ofString "").length = 0 from rfl, Nat.mul_zero]
    omega
theorem lead_le {hk : List Nat} (hb : ∀ h ∈ hk, h ≤ 64) (hc : hk.length ≤ 100) : (Txt.join "" (leadL hk)).length ≤ 6500 := by
  rw [join0_len]
  have h1 := sum_le_mul _ 65 (leadL_len hb)
  have h2 : (leadL hk).length = hk.length := List.length_map _
  omega
theorem far_le {hk : List Nat} (hb : ∀ h ∈ hk, h ≤ 64) (hc : hk.length ≤ 100) : (Txt.join "" (farL hk)).length ≤ 6500 := by
  rw [join0_len]
  have h1 := sum_le_mul _ 65 (farL_len hb)
  have h2 : (farL hk).length = hk.length := List.length_map _
  omega
theorem size_of (x : Str) : x.cps.size = x.length := rfl
theorem st11 {hk : List Nat} {gap : Nat} (G : GLaw W K C) (hb : ∀ h ∈ hk, h ≤ 64) (hc : hk.length ≤ 100) (hg : gap ≤ 2) (hz : znear ≠ .glob) :
    X1 W (d + 3) (lawW zscript zdrawn zk zstart zbits znumber zsaid zmail ztold ztyped zeven zhooks (sStr (Txt.join "" (leadL hk))) (sInt gap) znear zfar zdeep zways zdue zeach zt zcolumn zseen zodd zshift) β (lSt 11) (.next (lawW zscript zdrawn zk zstart zbits znumber zsaid zmail ztold ztyped zeven zhooks (sStr (Txt.join "" (leadL hk))) (sInt gap) (sInst C (nearS hk gap) (wspOf (nearS hk gap))) zfar zdeep zways zdue zeach zt zcolumn zseen zodd zshift)) β := by
  have l0 := lead_le hb hc
  have l1 := mulC_le 32 (gap : Int) 2 (by omega)
  have l2 : (Txt.join "" (leadL hk) ++ Txt.mul " " (gap : Int)).length ≤ 6502 := by
    rw [Str.length_append']
    show _ + (Txt.mul ⟨#[32]⟩ (gap : Int)).length ≤ _
    omega
  have l3 : (Str.ofString "x").length = 1 := rfl
  have l4 : (nearS hk gap).length ≤ 6503 := by unfold nearS; rw [Str.length_append']; omega
  refine X1.assign (r := .val (pInst C (nearS hk gap) (wspOf (nearS hk gap)))) ?_ (by (repeat (first | exact List.mem_cons_self | refine List.mem_cons_of_mem _ ?_))) (by simp) hz
  refine Ev.callk (ps := [.d (.str (nearS hk gap))]) (by (repeat (first | exact List.mem_cons_self | refine List.mem_cons_of_mem _ ?_))) (Evs.consk (.str (nearS hk gap)) ?_ Evs.nil) (make_fn G.ws.cls G.m.b (by rw [size_of]; omega))
  refine Ev.bink (.str (Txt.join "" (leadL hk) ++ Txt.mul " " (gap : Int))) (.str "x") ?_ Ev.str (Op.adds (by omega))
  refine Ev.bink (.str (Txt.join "" (leadL hk))) (.str (Txt.mul " " (gap : Int))) (Ev.var (by (repeat (first | exact List.mem_cons_self | refine List.mem_cons_of_mem _ ?_)))) ?_ (Op.adds ?_)
  · exact Ev.bink (.str " ") (.int (gap : Int)) Ev.str (Ev.var (by (repeat (first | exact List.mem_cons_self | refine List.mem_cons_of_mem _ ?_)))) (Op.muls 1 64 (by decide) (by omega) (by omega) (by decide) (by decide))
  · show _ + (Txt.mul ⟨#[32]⟩ (gap : Int)).length ≤ _
    omega
theorem st13 {hk : List Nat} (G : GLaw W K C) (hb : ∀ h ∈ hk, h ≤ 64) (hc : hk.length ≤ 100) (hz : zdeep ≠ .glob) :
    X1 W (d + 3) (lawW zscript zdrawn zk zstart zbits znumber zsaid zmail ztold ztyped zeven zhooks (sStr (Txt.join "" (leadL hk))) zgap znear zfar zdeep zways zdue zeach zt zcolumn zseen zodd zshift) β (lSt 13) (.next (lawW zscript zdrawn zk zstart zbits znumber zsaid zmail ztold ztyped zeven zhooks (sStr (Txt.join "" (leadL hk))) zgap znear zfar (sInst C (deepS hk) (wspOf (deepS hk))) zways zdue zeach zt zcolumn zseen zodd zshift)) β := by
  have l0 := lead_le hb hc
  have l1 := mulC_le 32 6 6 (by omega)
  have l2 : (Txt.join "" (leadL hk) ++ Txt.mul " " 6).length ≤ 6506 := by
    rw [Str.length_append']
    show _ + (Txt.mul ⟨#[32]⟩ 6).length ≤ _
    omega
  have l3 : (Str.ofString "x").length = 1 := rfl
  have l4 : (deepS hk).length ≤ 6507 := by unfold deepS; rw [Str.length_append']; omega
  refine X1.assign (r := .val (pInst C (deepS hk) (wspOf (deepS hk)))) ?_ (by (repeat (first | exact List.mem_cons_self | refine List.mem_cons_of_mem _ ?_))) (by simp) hz
  refine Ev.callk (ps := [.d (.str (deepS hk))]) (by (repeat (first | exact List.mem_cons_self | refine List.mem_cons_of_mem _ ?_))) (Evs.consk (.str (deepS hk)) ?_ Evs.nil) (make_fn G.ws.cls G.m.b (by rw [size_of]; omega))
  refine Ev.bink (.str (Txt.join "" (leadL hk) ++ Txt.mul " " 6)) (.str "x") ?_ Ev.str (Op.adds (by omega))
  refine Ev.bink (.str (Txt.join "" (leadL hk))) (.str (Txt.mul " " 6)) (Ev.var (by (repeat (first | exact List.mem_cons_self | refine List.mem_cons_of_mem _ ?_)))) ?_ (Op.adds ?_)
  · exact Ev.bink (.str " ") (.int 6) Ev.str Ev.int (Op.muls 1 64 (by decide) (by omega) (by omega) (by decide) (by decide))
  · show _ + (Txt.mul ⟨#[32]⟩ 6).length ≤ _
    omega
theorem st12 {hk : List Nat} {gap : Nat} (G : GLaw W K C) (hb : ∀ h ∈ hk, h ≤ 64) (hc : hk.length ≤ 100) (hg : gap ≤ 2) (hz : zfar ≠ .glob) :
    X1 W (d + 3) (lawW zscript zdrawn zk zstart zbits znumber zsaid zmail ztold ztyped zeven (sNats hk) zlead (sInt gap) znear zfar zdeep zways zdue zeach zt zcolumn zseen zodd zshift) β (lSt 12) (.next (lawW zscript zdrawn zk zstart zbits znumber zsaid zmail ztold ztyped zeven (sNats hk) zlead (sInt gap) znear (sInst C (farS hk gap) (wspOf (farS hk gap))) zdeep zways zdue zeach zt zcolumn zseen zodd zshift)) β := by
  have l0 := far_le hb hc
  have l1 := mulC_le 32 (gap : Int) 2 (by omega)
  have l2 : (Txt.join "" (farL hk) ++ Txt.mul " " (gap : Int)).length ≤ 6502 := by
    rw [Str.length_append']
    show _ + (Txt.mul ⟨#[32]⟩ (gap : Int)).length ≤ _
    omega
  have l3 : (Str.ofString "x \t").length = 3 := rfl
  have l4 : (farS hk gap).length ≤ 6505 := by unfold farS; rw [Str.length_append']; omega
  have hlen := farL_len hb
  have hl2 : (farL hk).length = hk.length := List.length_map _
  refine X1.assign (r := .val (pInst C (farS hk gap) (wspOf (farS hk gap)))) ?_ (by (repeat (first | exact List.mem_cons_self | refine List.mem_cons_of_mem _ ?_))) (by simp) hz
  refine Ev.callk (ps := [.d (.str (farS hk gap))]) (by (repeat (first | exact List.mem_cons_self | refine List.mem_cons_of_mem _ ?_))) (Evs.consk (.str (farS hk gap)) ?_ Evs.nil) (make_fn G.ws.cls G.m.b (by rw [size_of]; omega))
  refine Ev.bink (.str (Txt.join "" (farL hk) ++ Txt.mul " " (gap : Int))) (.str "x \t") ?_ Ev.str (Op.adds (by omega))
  refine Ev.bink (.str (Txt.join "" (farL hk))) (.str (Txt.mul " " (gap : Int))) ?_ ?_ (Op.adds ?_)
  · refine Ev.meth (p := .str "") (β1 := β) (β2 := β) (ps := [.d (.list ((farL hk).map .str))]) Ev.str (Evs.consk (.new ((farL hk).map .str)) ?_ Evs.nil) (Mt.join ?_)
    · unfold farL
      rw [List.map_map]
      refine Ev.compk (.dat (dInts hk)) (pInts hk) [⟨"h", .loc, .unb⟩] _ ?_ ?_ ?_ ?_ ?_ ?_ ?_
      · exact Ev.var (by (repeat (first | exact List.mem_cons_self | refine List.mem_cons_of_mem _ ?_)))
      · exact items_ints hk
      · (repeat (first | exact FreeOk.nil | (refine FreeOk.skip ?_ ?_; decide) | (apply FreeOk.free; (repeat (first | exact List.mem_cons_self | refine List.mem_cons_of_mem _ ?_)); (intro h; nomatch h))))
      · (repeat (first | exact CV.nil | (refine CV.loc ?_ ?_ ?_; (exact ⟨by decide, by decide⟩); (decide)) | (refine CV.glob ?_ ?_ ?_; (exact ⟨by decide, by decide⟩); (decide)) | (apply CV.free; (repeat (first | exact List.mem_cons_self | refine List.mem_cons_of_mem _ ?_)); (intro h; nomatch h); (decide)) | (refine CV.cell ?_ ?_ ?_; (exact ⟨by decide, by decide⟩); (decide))))
      · refine RunsS.elt0 (α := Nat) _ (fun (k : Nat) => [⟨"h", .loc, sInt k⟩]) _ hk ?_ ?_
        · intro k hk'
          exact .name (by (repeat (first | exact List.mem_cons_self | refine List.mem_cons_of_mem _ ?_))) (by simp) (by simp)
        · intro k hk'
          have hk64 := hb k hk'
          have l1 := mulC_le 32 (k : Int) 64 (by omega)
          refine Ev.bink (.str (Txt.mul " " (k : Int))) (.str "\t") ?_ Ev.str (Op.adds ?_)
          · exact Ev.bink (.str " ") (.int (k : Int)) Ev.str (Ev.var (by (repeat (first | exact List.mem_cons_self | refine List.mem_cons_of_mem _ ?_)))) (Op.muls 1 64 (by decide) (by omega) (by omega) (by decide) (by decide))
          · show (Txt.mul ⟨#[32]⟩ (k : Int)).length + _ ≤ _
            have : (Str.ofString "\t").length = 1 := rfl
            omega
      · (refine Free.name ?_; intro v hv e; simp only [List.mem_cons, List.not_mem_nil, or_false] at hv; (repeat (cases hv with | inl h => (subst h; first | rfl | (exfalso; simp at e)) | inr hv => ?_)); all_goals (subst hv; first | rfl | (exfalso; simp at e)))
      · simp; omega
    · have := sum_le_mul _ 65 hlen
      rw [show (Str.ofString "").length = 0 from rfl, Nat.mul_zero]
      omega
  · exact Ev.bink (.str " ") (.int (gap : Int)) Ev.str (Ev.var (by (repeat (first | exact List.mem_cons_self | refine List.mem_cons_of_mem _ ?_)))) (Op.muls 1 64 (by decide) (by omega) (by omega) (by decide) (by decide))
  · show _ + (Txt.mul ⟨#[32]⟩ (gap : Int)).length ≤ _
    omega
end
end
section
set_option maxRecDepth 20000

noncomputable abbrev Tri := Nat × Nat × Nat
noncomputable def triD (x : Tri) : PyData := .tuple [.int (x.1 : Int), .int (x.2.1 : Int), .int (x.2.2 : Int)]
noncomputable abbrev trisD (l : List Tri) : PyData := .list (l.map triD)
theorem tri_lay (l : List Tri) : PyData.canLayAll0 (l.map triD) = true := by
  induction l with
  | nil => rfl
  | cons x l ih => simp [PyData.canLayAll0, PyData.canLay0, triD, ih]
theorem tri_depth (l : List Tri) : PyData.depthAll (l.map triD) ≤ 2 := by
  induction l with
  | nil => simp [PyData.depthAll]
  | cons x l ih => simp [PyData.depthAll, PyData.depth, triD]; omega
theorem tri_shaped (l : List Tri) : SeqAt.shaped (trisD l) = true := by
  unfold SeqAt.shaped
  have := tri_depth l
  simp [PyData.canLay0, tri_lay, PyData.depth]; omega
theorem tri_eqv (l : List Tri) : PyData.eqv (trisD l) (trisD l) = true := by
  show PyData.eqvAll (l.map triD) (l.map triD) = true
  induction l with
  | nil => rfl
  | cons x l ih => simp [PyData.eqvAll, PyData.eqv, triD, ih]
theorem ints_depth (l : List Nat) : PyData.depthAll (l.map fun (n : Nat) => PyData.int (n : Int)) ≤ 1 := by
  induction l with
  | nil => simp [PyData.depthAll]
  | cons x l ih => simp [PyData.depthAll, PyData.depth]; omega
theorem ints_shaped (l : List Nat) : SeqAt.shaped (dInts l) = true := by
  unfold SeqAt.shaped
  have := ints_depth l
  simp [PyData.canLay0, canLay_ints, PyData.depth]; omega
theorem ints_nil (l : List Nat) : PyData.eqv (dInts l) (.list []) = l.isEmpty := by
  cases l <;> simp [PyData.eqv, PyData.eqvAll]

noncomputable def waysAt (bits : List Nat) (p : Nat) : List Nat := ((List.range p).filter fun q => decide (bits.getD q 0 < bits.getD p 0)).map fun q => p - q
noncomputable def waysOf (bits : List Nat) : List Nat := (List.range 7).flatMap (waysAt bits)
noncomputable def colOf (ways : List Nat) (t : Nat) : Nat := t * (ways.map fun w => (w + t - 1) / t).sum
noncomputable def farOf (ways : List Nat) (t : Nat) : Nat := t * (ways.map fun w => w / t + 1).sum
noncomputable def eachT (ways : List Nat) (gap t : Nat) : Tri := (t, gap + colOf ways t, 6 + colOf ways t)
noncomputable def dueT (ways : List Nat) (gap t : Nat) : Tri := (t, gap + colOf ways t, gap + farOf ways t)
noncomputable def hasW (ways : List Nat) (t : Nat) : Bool := !(ways.filter fun w => w % t == 0).isEmpty
section
variable {W : Wd} {K : Frag} {C : Addr} {β : Bk} {d : Nat}
variable {zscript zdrawn zk zstart zbits znumber zsaid zmail ztold ztyped zeven zhooks zlead zgap znear zfar zdeep zways zdue zeach zt zcolumn zseen zodd zshift : Slot}
noncomputable abbrev wyV (bits : List Nat) (p q : Slot) : Vars := [⟨"p", .loc, p⟩, ⟨"q", .loc, q⟩, ⟨"range", .loc, .glob⟩, ⟨"bits", .free, sBits bits⟩]
theorem ways_at_len (bits : List Nat) (p : Nat) : (waysAt bits p).length ≤ p := by
  unfold waysAt
  rw [List.length_map]
  exact Nat.le_trans (List.length_filter_le _ _) (by simp)
theorem ways_len (bits : List Nat) : (waysOf bits).length ≤ 21 := by
  unfold waysOf
  rw [List.length_flatMap]
  have h := ways_at_len bits
  have e : List.range 7 = [0, 1, 2, 3, 4, 5, 6] := rfl
  rw [e]
  simp only [List.map_cons, List.map_nil, List.sum_cons, List.sum_nil]
  have := h 0; have := h 1; have := h 2; have := h 3; have := h 4; have := h 5; have := h 6
  omega
theorem ev_bit {bits : List Nat} {σ : Vars} {k : Nat} {x : String} {l l' : Loc} {p1 p2 p3 : Pos} (h7 : bits.length = 7) (hk : k < 7) (hx : (⟨x, l, sInt k⟩ : Var) ∈ σ) (hb : (⟨"bits", l', sBits bits⟩ : Var) ∈ σ) (hs : PlainSub (.Name (Str.ofString x) p2) := by intro _ _; rfl) :
    Ev W d σ β (.Subscript (.Name (Str.ofString "bits") p1) (.Name (Str.ofString x) p2) p3) (.int ((bits.getD k 0 : Nat) : Int)) β :=
  Ev.subk (.dat (dInts bits)) (.int (k : Int)) (Ev.var hb) (Ev.var hx) (Op.item (by omega) (by omega) (at_ints bits k (by omega) _ rfl) hs)
theorem st14 {bits : List Nat} (B : Blt W) (h7 : bits.length = 7) (hz : zways ≠ .glob) : X1 W d (lawW zscript zdrawn zk zstart (sBits bits) znumber zsaid zmail ztold ztyped zeven zhooks zlead zgap znear zfar zdeep zways zdue zeach zt zcolumn zseen zodd zshift) β (lSt 14) (.next (lawW zscript zdrawn zk zstart (sBits bits) znumber zsaid zmail ztold ztyped zeven zhooks zlead zgap znear zfar zdeep (.own (cInts (waysOf bits))) zdue zeach zt zcolumn zseen zodd zshift)) β := by
  have hl := ways_len bits
  refine X1.assignCompk (.val (.rng 0 ((7 : Nat) : Int) 1)) (pInts (List.range 7)) (wyV bits .unb .unb) (cInts (waysOf bits)) ?_ ?_ ?_ ?_ ?_ ?_ ?_ (by (repeat (first | exact List.mem_cons_self | refine List.mem_cons_of_mem _ ?_))) (fun it acc env => nest_eq _ _ _ _ _ _ _ _ rfl it acc env) hz
  · exact Ev.callk (ps := [.d (.int 7)]) (by (repeat (first | exact List.mem_cons_self | refine List.mem_cons_of_mem _ ?_))) (Evs.consk (.int 7) Ev.int Evs.nil) (Fn.t B.range Op.range1)
  · exact Items.range' 7 (by omega)
  · (repeat (first | exact FreeOk.nil | (refine FreeOk.skip ?_ ?_; decide) | (apply FreeOk.free; (repeat (first | exact List.mem_cons_self | refine List.mem_cons_of_mem _ ?_)); (intro h; nomatch h))))
  · (repeat (first | exact CV.nil | (refine CV.loc ?_ ?_ ?_; (exact ⟨by decide, by decide⟩); (decide)) | (refine CV.glob ?_ ?_ ?_; (exact ⟨by decide, by decide⟩); (decide)) | (apply CV.free; (repeat (first | exact List.mem_cons_self | refine List.mem_cons_of_mem _ ?_)); (intro h; nomatch h); (decide)) | (refine CV.cell ?_ ?_ ?_; (exact ⟨by decide, by decide⟩); (decide))))
  · have := RunsS.map (W := W) (d := d) (σ := wyV bits .unb .unb) (target := (genAt (compGens (lSt 14)) 0).target) (ifs := (genAt (compGens (lSt 14)) 0).ifs) (body := nestB (compElt (lSt 14)) (compGens (lSt 14)) (compScope (lSt 14)) (compPos (lSt 14)) 0 (genAt (compGens (lSt 14)) 1).iter) (β := β) (fun (k : Nat) => PV.d (.int (k : Int))) (fun (k : Nat) => wyV bits (sInt k) .unb) (fun _ => true) (fun p => cInts (waysAt bits p)) (List.range 7) ?_ ?_ ?_
    · have e : ((List.range 7).flatMap fun a => if (fun (_ : Nat) => true) a = true then (fun p => cInts (waysAt bits p)) a else []) = cInts (waysOf bits) := by
        unfold waysOf
        simp only [if_true]
        rw [show cInts ((List.range 7).flatMap (waysAt bits)) = _ from List.map_flatMap ..]
      rw [e] at this
      exact this
    · intro k hk
      exact .name (by (repeat (first | exact List.mem_cons_self | refine List.mem_cons_of_mem _ ?_))) (by simp) (by simp)
    · intro k hk
      exact .nil
    · intro k hk _
      have hk7 := List.mem_range.mp hk
      refine BodyOk.nest (r := .val (.rng 0 (k : Int) 1)) (items := pInts (List.range k)) (g := genAt (compGens (lSt 14)) 1) (β1 := β) ?_ (Items.range' k (by omega)) ?_ (fun _ _ _ => rfl) ?_ rfl rfl ?_
      · exact Ev.callk (ps := [.d (.int (k : Int))]) (by (repeat (first | exact List.mem_cons_self | refine List.mem_cons_of_mem _ ?_))) (Evs.consk (.int (k : Int)) (Ev.var (by (repeat (first | exact List.mem_cons_self | refine List.mem_cons_of_mem _ ?_)))) Evs.nil) (Fn.t B.range Op.range1)
      · have e : cInts (waysAt bits k) = ((List.range k).filter fun q => decide (bits.getD q 0 < bits.getD k 0)).map fun q => PyData.int ((k - q : Nat) : Int) := cInts_map ..
        rw [e]
        refine RunsS.elt (α := Nat) (fun (q : Nat) => PV.d (.int (q : Int))) (fun (q : Nat) => wyV bits (sInt k) (sInt q)) (fun q => decide (bits.getD q 0 < bits.getD k 0)) _ (List.range k) ?_ ?_ ?_
        · intro q hq
          exact .name (by (repeat (first | exact List.mem_cons_self | refine List.mem_cons_of_mem _ ?_))) (by simp) (by simp)
        · intro q hq
          have hqk := List.mem_range.mp hq
          refine .one (Et.cast (Et.cmpk (.int ((bits.getD k 0 : Nat) : Int)) (.int ((bits.getD q 0 : Nat) : Int)) ?_ ?_ Op.gt) ?_)
          · exact ev_bit h7 hk7 (by (repeat (first | exact List.mem_cons_self | refine List.mem_cons_of_mem _ ?_))) (by (repeat (first | exact List.mem_cons_self | refine List.mem_cons_of_mem _ ?_)))
          · exact ev_bit h7 (by omega) (by (repeat (first | exact List.mem_cons_self | refine List.mem_cons_of_mem _ ?_))) (by (repeat (first | exact List.mem_cons_self | refine List.mem_cons_of_mem _ ?_)))
          · rw [Bool.eq_iff_iff, decide_eq_true_eq, decide_eq_true_eq]; omega
        · intro q hq _
          have hqk := List.mem_range.mp hq
          refine Ev.cast (Ev.bink (.int (k : Int)) (.int (q : Int)) (Ev.var (by (repeat (first | exact List.mem_cons_self | refine List.mem_cons_of_mem _ ?_)))) (Ev.var (by (repeat (first | exact List.mem_cons_self | refine List.mem_cons_of_mem _ ?_)))) Op.sub) ?_
          show Res.int _ = Res.int _
          congr 3; omega
      · (refine Free.name ?_; intro v hv e; simp only [List.mem_cons, List.not_mem_nil, or_false] at hv; (repeat (cases hv with | inl h => (subst h; first | rfl | (exfalso; simp at e)) | inr hv => ?_)); all_goals (subst hv; first | rfl | (exfalso; simp at e)))
      · intro _ _; rfl
  · (refine Free.name ?_; intro v hv e; simp only [List.mem_cons, List.not_mem_nil, or_false] at hv; (repeat (cases hv with | inl h => (subst h; first | rfl | (exfalso; simp at e)) | inr hv => ?_)); all_goals (subst hv; first | rfl | (exfalso; simp at e)))
  · simp; omega

theorem st15 (hz : zdue ≠ .glob) : X1 W d (lawW zscript zdrawn zk zstart zbits znumber zsaid zmail ztold ztyped zeven zhooks zlead zgap znear zfar zdeep zways zdue zeach zt zcolumn zseen zodd zshift) β (lSt 15) (.next (lawW zscript zdrawn zk zstart zbits znumber zsaid zmail ztold ztyped zeven zhooks zlead zgap znear zfar zdeep zways (.own []) zeach zt zcolumn zseen zodd zshift)) β := X1.assignNew (xs := []) (Ev.listd Evs.nil rfl (by decide)) (by (repeat (first | exact List.mem_cons_self | refine List.mem_cons_of_mem _ ?_))) (by simp) hz
theorem st16 (hz : zeach ≠ .glob) : X1 W d (lawW zscript zdrawn zk zstart zbits znumber zsaid zmail ztold ztyped zeven zhooks zlead zgap znear zfar zdeep zways zdue zeach zt zcolumn zseen zodd zshift) β (lSt 16) (.next (lawW zscript zdrawn zk zstart zbits znumber zsaid zmail ztold ztyped zeven zhooks zlead zgap znear zfar zdeep zways zdue (.own []) zt zcolumn zseen zodd zshift)) β := X1.assignNew (xs := []) (Ev.listd Evs.nil rfl (by decide)) (by (repeat (first | exact List.mem_cons_self | refine List.mem_cons_of_mem _ ?_))) (by simp) hz
end
end
section
set_option maxRecDepth 20000

section
variable {W : Wd} {K : Frag} {C : Addr} {β : Bk} {d : Nat}
variable {zscript zdrawn zk zstart zbits znumber zsaid zmail ztold ztyped zeven zhooks zlead zgap znear zfar zdeep zways zdue zeach zt zcolumn zseen zodd zshift : Slot}
noncomputable abbrev ayV (t : Nat) (way : Slot) : Vars := [⟨"way", .loc, way⟩, ⟨"t", .free, sInt t⟩]
theorem bd_col {ws : List Nat} {gap t : Nat} {xs ys : List Tri} (B : Blt W) (hl : ws.length ≤ 100) (ht : 0 < t) (ht7 : t ≤ 7) (hz : zcolumn ≠ .glob) :
    X1 W d (lawW zscript zdrawn zk zstart zbits znumber zsaid zmail ztold ztyped zeven zhooks zlead (sInt gap) znear zfar zdeep (sNats ws) (.own (xs.map triD)) (.own (ys.map triD)) (sInt t) (zcolumn) zseen zodd zshift) β (sAt (forBody (lSt 17)) 0) (.next (lawW zscript zdrawn zk zstart zbits znumber zsaid zmail ztold ztyped zeven zhooks zlead (sInt gap) znear zfar zdeep (sNats ws) (.own (xs.map triD)) (.own (ys.map triD)) (sInt t) (sInt (colOf ws t)) zseen zodd zshift)) β := by
  refine X1.assign (r := .int (colOf ws t : Int)) ?_ (by (repeat (first | exact List.mem_cons_self | refine List.mem_cons_of_mem _ ?_))) (by simp) hz
  refine Ev.cast (Ev.bink (.int (t : Int)) (.int ((ws.map fun w => (w + t - 1) / t).sum : Int)) (Ev.var (by (repeat (first | exact List.mem_cons_self | refine List.mem_cons_of_mem _ ?_)))) ?_ (Op.mul (mulNat (by omega)))) ?_
  · refine ev_sum (l := ws.map fun w => (w + t - 1) / t) (r := .new (cInts (ws.map fun w => (w + t - 1) / t))) B (by (repeat (first | exact List.mem_cons_self | refine List.mem_cons_of_mem _ ?_))) ?_ rfl
    rw [cInts_map]
    refine Ev.compk (.dat (dInts ws)) (pInts ws) (ayV t .unb) _ ?_ ?_ ?_ ?_ ?_ ?_ ?_
    · exact Ev.var (by (repeat (first | exact List.mem_cons_self | refine List.mem_cons_of_mem _ ?_)))
    · exact items_ints ws
    · (repeat (first | exact FreeOk.nil | (refine FreeOk.skip ?_ ?_; decide) | (apply FreeOk.free; (repeat (first | exact List.mem_cons_self | refine List.mem_cons_of_mem _ ?_)); (intro h; nomatch h))))
    · (repeat (first | exact CV.nil | (refine CV.loc ?_ ?_ ?_; (exact ⟨by decide, by decide⟩); (decide)) | (refine CV.glob ?_ ?_ ?_; (exact ⟨by decide, by decide⟩); (decide)) | (apply CV.free; (repeat (first | exact List.mem_cons_self | refine List.mem_cons_of_mem _ ?_)); (intro h; nomatch h); (decide)) | (refine CV.cell ?_ ?_ ?_; (exact ⟨by decide, by decide⟩); (decide))))
    · refine RunsS.elt0 (α := Nat) _ (fun (k : Nat) => ayV t (sInt k)) _ ws ?_ ?_
      · intro k hk
        exact .name (by (repeat (first | exact List.mem_cons_self | refine List.mem_cons_of_mem _ ?_))) (by simp) (by simp)
      · intro k hk
        refine Ev.cast (Ev.bink (.int ((k + t - 1 : Nat) : Int)) (.int (t : Int)) ?_ (Ev.var (by (repeat (first | exact List.mem_cons_self | refine List.mem_cons_of_mem _ ?_)))) (Op.fdiv (by omega) (by omega))) (by simp)
        refine Ev.cast (Ev.bink (.int ((k : Int) + (t : Int))) (.int 1) (Ev.bink (.int (k : Int)) (.int (t : Int)) (Ev.var (by (repeat (first | exact List.mem_cons_self | refine List.mem_cons_of_mem _ ?_)))) (Ev.var (by (repeat (first | exact List.mem_cons_self | refine List.mem_cons_of_mem _ ?_)))) Op.add) Ev.int Op.sub) ?_
        show Res.int _ = Res.int _
        congr 3; omega
    · (refine Free.name ?_; intro v hv e; simp only [List.mem_cons, List.not_mem_nil, or_false] at hv; (repeat (cases hv with | inl h => (subst h; first | rfl | (exfalso; simp at e)) | inr hv => ?_)); all_goals (subst hv; first | rfl | (exfalso; simp at e)))
    · simp; omega
  · show Res.int _ = Res.int _
    unfold colOf
    simp
theorem bd_each {ws : List Nat} {gap t : Nat} {xs ys : List Tri} (ht : 0 < t) (ht7 : t ≤ 7) (hy : ys.length ≤ 100) :
    X1 W d (lawW zscript zdrawn zk zstart zbits znumber zsaid zmail ztold ztyped zeven zhooks zlead (sInt gap) znear zfar zdeep (sNats ws) (.own (xs.map triD)) (.own (ys.map triD)) (sInt t) (sInt (colOf ws t)) zseen zodd zshift) β (sAt (forBody (lSt 17)) 1) (.next (lawW zscript zdrawn zk zstart zbits znumber zsaid zmail ztold ztyped zeven zhooks zlead (sInt gap) znear zfar zdeep (sNats ws) (.own (xs.map triD)) (.own ((ys ++ [eachT ws gap t]).map triD)) (sInt t) (sInt (colOf ws t)) zseen zodd zshift)) β := by
  rw [List.map_append]
  refine X1.append (x := "each") (l := .loc) (xs := ys.map triD) (q := triD (eachT ws gap t)) (by (repeat (first | exact List.mem_cons_self | refine List.mem_cons_of_mem _ ?_))) ?_ (by simp; omega)
  refine Ev.tuple (ps := [.d (.int (t : Int)), .d (.int ((gap + colOf ws t : Nat) : Int)), .d (.int ((6 + colOf ws t : Nat) : Int))]) ?_ rfl (by simp)
  refine Evs.consk (.int (t : Int)) (Ev.var (by (repeat (first | exact List.mem_cons_self | refine List.mem_cons_of_mem _ ?_)))) (Evs.consk (.int ((gap + colOf ws t : Nat) : Int)) ?_ (Evs.consk (.int ((6 + colOf ws t : Nat) : Int)) ?_ Evs.nil))
  · exact Ev.cast (Ev.bink (.int (gap : Int)) (.int (colOf ws t : Int)) (Ev.var (by (repeat (first | exact List.mem_cons_self | refine List.mem_cons_of_mem _ ?_)))) (Ev.var (by (repeat (first | exact List.mem_cons_self | refine List.mem_cons_of_mem _ ?_)))) Op.add) (by simp)
  · exact Ev.cast (Ev.bink (.int 6) (.int (colOf ws t : Int)) Ev.int (Ev.var (by (repeat (first | exact List.mem_cons_self | refine List.mem_cons_of_mem _ ?_)))) Op.add) (by simp)
theorem bd_due {ws : List Nat} {gap t : Nat} {xs ys : List Tri} (B : Blt W) (hl : ws.length ≤ 100) (ht : 0 < t) (ht7 : t ≤ 7) (hx : xs.length ≤ 100) :
    X1 W d (lawW zscript zdrawn zk zstart zbits znumber zsaid zmail ztold ztyped zeven zhooks zlead (sInt gap) znear zfar zdeep (sNats ws) (.own (xs.map triD)) (.own (ys.map triD)) (sInt t) (sInt (colOf ws t)) zseen zodd zshift) β (sAt (forBody (lSt 17)) 2) (.next (lawW zscript zdrawn zk zstart zbits znumber zsaid zmail ztold ztyped zeven zhooks zlead (sInt gap) znear zfar zdeep (sNats ws) (.own ((if hasW ws t = true then xs ++ [dueT ws gap t] else xs).map triD)) (.own (ys.map triD)) (sInt t) (sInt (colOf ws t)) zseen zodd zshift)) β := by
  have hfl := List.length_filter_le (fun w => w % t == 0) ws
  refine X1.ite (b := hasW ws t) (β1 := β) (Et.cast (Et.cmpk (.new (cInts (ws.filter fun w => w % t == 0))) (.new []) ?_ (Ev.listd Evs.nil rfl (by decide)) (Op.ned (ints_shaped _) (by decide +kernel))) ?_) ?_ ?_
  · refine Ev.compk (.dat (dInts ws)) (pInts ws) (ayV t .unb) _ ?_ ?_ ?_ ?_ ?_ ?_ ?_
    · exact Ev.var (by (repeat (first | exact List.mem_cons_self | refine List.mem_cons_of_mem _ ?_)))
    · exact items_ints ws
    · (repeat (first | exact FreeOk.nil | (refine FreeOk.skip ?_ ?_; decide) | (apply FreeOk.free; (repeat (first | exact List.mem_cons_self | refine List.mem_cons_of_mem _ ?_)); (intro h; nomatch h))))
    · (repeat (first | exact CV.nil | (refine CV.loc ?_ ?_ ?_; (exact ⟨by decide, by decide⟩); (decide)) | (refine CV.glob ?_ ?_ ?_; (exact ⟨by decide, by decide⟩); (decide)) | (apply CV.free; (repeat (first | exact List.mem_cons_self | refine List.mem_cons_of_mem _ ?_)); (intro h; nomatch h); (decide)) | (refine CV.cell ?_ ?_ ?_; (exact ⟨by decide, by decide⟩); (decide))))
    · refine RunsS.elt (α := Nat) _ (fun (k : Nat) => ayV t (sInt k)) (fun w => w % t == 0) _ ws ?_ ?_ ?_
      · intro k hk
        exact .name (by (repeat (first | exact List.mem_cons_self | refine List.mem_cons_of_mem _ ?_))) (by simp) (by simp)
      · intro k hk
        refine .one (Et.cast (Et.cmpk (.int ((k % t : Nat) : Int)) (.int 0) ?_ Ev.int Op.eq) ?_)
        · exact Ev.cast (Ev.bink (.int (k : Int)) (.int (t : Int)) (Ev.var (by (repeat (first | exact List.mem_cons_self | refine List.mem_cons_of_mem _ ?_)))) (Ev.var (by (repeat (first | exact List.mem_cons_self | refine List.mem_cons_of_mem _ ?_)))) (Op.mod (by omega))) (by simp)
        · rw [Bool.eq_iff_iff, beq_iff_eq, beq_iff_eq]; omega
      · intro k hk _
        exact Ev.var (by (repeat (first | exact List.mem_cons_self | refine List.mem_cons_of_mem _ ?_)))
    · (refine Free.name ?_; intro v hv e; simp only [List.mem_cons, List.not_mem_nil, or_false] at hv; (repeat (cases hv with | inl h => (subst h; first | rfl | (exfalso; simp at e)) | inr hv => ?_)); all_goals (subst hv; first | rfl | (exfalso; simp at e)))
    · simp; omega
  · unfold hasW
    show (!PyData.eqv (dInts _) (.list [])) = _
    rw [ints_nil]
  · intro h
    rw [if_pos h, List.map_append]
    refine Ex.consk _ (X1.append (x := "due") (l := .loc) (xs := xs.map triD) (q := triD (dueT ws gap t)) (by (repeat (first | exact List.mem_cons_self | refine List.mem_cons_of_mem _ ?_))) ?_ (by simp; omega)) Ex.nil
    refine Ev.tuple (ps := [.d (.int (t : Int)), .d (.int ((gap + colOf ws t : Nat) : Int)), .d (.int ((gap + farOf ws t : Nat) : Int))]) ?_ rfl (by simp)
    refine Evs.consk (.int (t : Int)) (Ev.var (by (repeat (first | exact List.mem_cons_self | refine List.mem_cons_of_mem _ ?_)))) (Evs.consk (.int ((gap + colOf ws t : Nat) : Int)) ?_ (Evs.consk (.int ((gap + farOf ws t : Nat) : Int)) ?_ Evs.nil))
    · exact Ev.cast (Ev.bink (.int (gap : Int)) (.int (colOf ws t : Int)) (Ev.var (by (repeat (first | exact List.mem_cons_self | refine List.mem_cons_of_mem _ ?_)))) (Ev.var (by (repeat (first | exact List.mem_cons_self | refine List.mem_cons_of_mem _ ?_)))) Op.add) (by simp)
    · refine Ev.cast (Ev.bink (.int (gap : Int)) (.int (farOf ws t : Int)) (Ev.var (by (repeat (first | exact List.mem_cons_self | refine List.mem_cons_of_mem _ ?_)))) ?_ Op.add) (by simp)
      refine Ev.cast (Ev.bink (.int (t : Int)) (.int ((ws.map fun w => w / t + 1).sum : Int)) (Ev.var (by (repeat (first | exact List.mem_cons_self | refine List.mem_cons_of_mem _ ?_)))) ?_ (Op.mul (mulNat (by omega)))) ?_
      · refine ev_sum (l := ws.map fun w => w / t + 1) (r := .new (cInts (ws.map fun w => w / t + 1))) B (by (repeat (first | exact List.mem_cons_self | refine List.mem_cons_of_mem _ ?_))) ?_ rfl
        rw [cInts_map]
        refine Ev.compk (.dat (dInts ws)) (pInts ws) (ayV t .unb) _ ?_ ?_ ?_ ?_ ?_ ?_ ?_
        · exact Ev.var (by (repeat (first | exact List.mem_cons_self | refine List.mem_cons_of_mem _ ?_)))
        · exact items_ints ws
        · (repeat (first | exact FreeOk.nil | (refine FreeOk.skip ?_ ?_; decide) | (apply FreeOk.free; (repeat (first | exact List.mem_cons_self | refine List.mem_cons_of_mem _ ?_)); (intro h; nomatch h))))
        · (repeat (first | exact CV.nil | (refine CV.loc ?_ ?_ ?_; (exact ⟨by decide, by decide⟩); (decide)) | (refine CV.glob ?_ ?_ ?_; (exact ⟨by decide, by decide⟩); (decide)) | (apply CV.free; (repeat (first | exact List.mem_cons_self | refine List.mem_cons_of_mem _ ?_)); (intro h; nomatch h); (decide)) | (refine CV.cell ?_ ?_ ?_; (exact ⟨by decide, by decide⟩); (decide))))
        · refine RunsS.elt0 (α := Nat) _ (fun (k : Nat) => ayV t (sInt k)) _ ws ?_ ?_
          · intro k hk
            exact .name (by (repeat (first | exact List.mem_cons_self | refine List.mem_cons_of_mem _ ?_))) (by simp) (by simp)
          · intro k hk
            refine Ev.cast (Ev.bink (.int ((k / t : Nat) : Int)) (.int 1) ?_ Ev.int Op.add) (by simp)
            exact Ev.cast (Ev.bink (.int (k : Int)) (.int (t : Int)) (Ev.var (by (repeat (first | exact List.mem_cons_self | refine List.mem_cons_of_mem _ ?_)))) (Ev.var (by (repeat (first | exact List.mem_cons_self | refine List.mem_cons_of_mem _ ?_)))) (Op.fdiv (by omega) (by omega))) (by simp)
        · (refine Free.name ?_; intro v hv e; simp only [List.mem_cons, List.not_mem_nil, or_false] at hv; (repeat (cases hv with | inl h => (subst h; first | rfl | (exfalso; simp at e)) | inr hv => ?_)); all_goals (subst hv; first | rfl | (exfalso; simp at e)))
        · simp; omega
      · show Res.int _ = Res.int _
        unfold farOf
        simp
  · intro h
    rw [h]
    exact Ex.nil
noncomputable def dueL (ws : List Nat) (gap : Nat) (ts : List Nat) : List Tri := (ts.filter (hasW ws)).map (dueT ws gap)
theorem bd_loop {ws : List Nat} {gap : Nat} (B : Blt W) (hl : ws.length ≤ 100) : ∀ (ts : List Nat) (xs ys : List Tri), (∀ t ∈ ts, 0 < t ∧ t ≤ 7) → xs.length + ts.length ≤ 100 → ys.length + ts.length ≤ 100 →
    ForRun W d (forTarget (lSt 17)) (forBody (lSt 17)) (lawW zscript zdrawn zk zstart zbits znumber zsaid zmail ztold ztyped zeven zhooks zlead (sInt gap) znear zfar zdeep (sNats ws) (.own (xs.map triD)) (.own (ys.map triD)) .unb .unb zseen zodd zshift) β (pInts ts) (.done (lawW zscript zdrawn zk zstart zbits znumber zsaid zmail ztold ztyped zeven zhooks zlead (sInt gap) znear zfar zdeep (sNats ws) (.own ((xs ++ dueL ws gap ts).map triD)) (.own ((ys ++ ts.map (eachT ws gap)).map triD)) .unb .unb zseen zodd zshift)) β := by
  intro ts
  induction ts with
  | nil => intro xs ys _ _ _; simpa [dueL] using .nil
  | cons t ts ih =>
    intro xs ys hk h1 h2
    obtain ⟨ht, ht7⟩ := hk t List.mem_cons_self
    rw [List.length_cons] at h1 h2
    have e1 : xs ++ dueL ws gap (t :: ts) = (if hasW ws t = true then xs ++ [dueT ws gap t] else xs) ++ dueL ws gap ts := by
      unfold dueL
      by_cases h : hasW ws t = true
      · rw [if_pos h, List.filter_cons_of_pos h]; simp
      · rw [if_neg h, List.filter_cons_of_neg h]
    have e2 : ys ++ (t :: ts).map (eachT ws gap) = (ys ++ [eachT ws gap t]) ++ ts.map (eachT ws gap) := by simp
    rw [e1, e2]
    have nxt := ih (if hasW ws t = true then xs ++ [dueT ws gap t] else xs) (ys ++ [eachT ws gap t]) (fun j hj => hk j (List.mem_cons_of_mem _ hj)) (by split; (simp; omega); omega) (by simp; omega)
    refine .cons (σ1 := (lawW zscript zdrawn zk zstart zbits znumber zsaid zmail ztold ztyped zeven zhooks zlead (sInt gap) znear zfar zdeep (sNats ws) (.own (xs.map triD)) (.own (ys.map triD)) (sInt t) .unb zseen zodd zshift)) (.name (by (repeat (first | exact List.mem_cons_self | refine List.mem_cons_of_mem _ ?_))) (by simp) (by simp)) ?_ nxt
    refine Ex.post (τ := (lawW zscript zdrawn zk zstart zbits znumber zsaid zmail ztold ztyped zeven zhooks zlead (sInt gap) znear zfar zdeep (sNats ws) (.own ((if hasW ws t = true then xs ++ [dueT ws gap t] else xs).map triD)) (.own ((ys ++ [eachT ws gap t]).map triD)) (sInt t) (sInt (colOf ws t)) zseen zodd zshift)) ?_ (Gh.ff (by (repeat (first | exact FF.nil | refine FF.keep ?_ | refine FF.drop ?_ ?_ | simp))))
    exact Ex.consk _ (bd_col B hl ht ht7 (by simp)) (Ex.consk _ (bd_each ht ht7 (by omega)) (Ex.consk _ (bd_due B hl ht ht7 (by omega)) Ex.nil))
noncomputable def ts7 : List Nat := [1, 2, 3, 4, 5, 6, 7]
theorem st17 {ws : List Nat} {gap : Nat} (B : Blt W) (hl : ws.length ≤ 100) :
    X1 W d (lawW zscript zdrawn zk zstart zbits znumber zsaid zmail ztold ztyped zeven zhooks zlead (sInt gap) znear zfar zdeep (sNats ws) (.own []) (.own []) .unb .unb zseen zodd zshift) β (lSt 17) (.next (lawW zscript zdrawn zk zstart zbits znumber zsaid zmail ztold ztyped zeven zhooks zlead (sInt gap) znear zfar zdeep (sNats ws) (.own ((dueL ws gap ts7).map triD)) (.own ((ts7.map (eachT ws gap)).map triD)) .unb .unb zseen zodd zshift)) β := by
  have loop := bd_loop (W := W) (β := β) (d := d) (zscript := zscript) (zdrawn := zdrawn) (zk := zk) (zstart := zstart) (zbits := zbits) (znumber := znumber) (zsaid := zsaid) (zmail := zmail) (ztold := ztold) (ztyped := ztyped) (zeven := zeven) (zhooks := zhooks) (zlead := zlead) (znear := znear) (zfar := zfar) (zdeep := zdeep) (zseen := zseen) (zodd := zodd) (zshift := zshift) (ws := ws) (gap := gap) B hl ts7 [] [] (by decide) (by decide) (by decide)
  refine X1.for (r := .val (.rng (1 : Nat) (8 : Nat) 1)) (β1 := β) (β2 := β) (e := .done _) ?_ (Items.rangeFrom 1 8 (by omega) (by omega)) loop Ex.nil
  exact Ev.callk (ps := [.d (.int 1), .d (.int 8)]) (by (repeat (first | exact List.mem_cons_self | refine List.mem_cons_of_mem _ ?_))) (Evs.consk (.int 1) Ev.int (Evs.consk (.int 8) Ev.int Evs.nil)) (Fn.t B.range Op.range2)
end
end
section
set_option maxRecDepth 20000

noncomputable def witT (r r' : Wsp) : List Tri := ((List.range' 1 (witN r r')).filter fun t => indentOf r t != indentOf r' t).map fun t => (t, indentOf r t, indentOf r' t)
theorem wit_tri (r r' : Wsp) : witOf r r' = (witT r r').map triD := by
  unfold witOf witT
  rw [List.map_map]; rfl
noncomputable def flip3 (x : Tri) : Tri := (x.1, x.2.2, x.2.1)
section
variable {W : Wd} {K : Frag} {C : Addr} {β : Bk} {d : Nat}
variable {zscript zdrawn zk zstart zbits znumber zsaid zmail ztold ztyped zeven zhooks zlead zgap znear zfar zdeep zways zdue zeach zt zcolumn zseen zodd zshift : Slot}
noncomputable abbrev tabV (t a b : Slot) : Vars := [⟨"t", .loc, t⟩, ⟨"a", .loc, a⟩, ⟨"b", .loc, b⟩]
theorem items_tri (l : List Tri) : Items W (.d (trisD l)) (l.map fun x => PV.d (triD x)) := by
  have := Items.list (W := W) (ds := l.map triD)
  rwa [List.map_map] at this
theorem Free.tuple {σ : Vars} {es : List Expr} {n : Nat} {p : Pos} (h : ∀ e ∈ es, Free σ e) : Free σ (.Tuple es n p) := fun e he x p' heq v hv hx => by
  subst heq
  exact h _ he v hv hx
theorem tab_free {p1 p2 p3 p : Pos} {n : Nat} : Free (tabV .unb .unb .unb) (.Tuple [.Name (Str.ofString "t") p1, .Name (Str.ofString "a") p2, .Name (Str.ofString "b") p3] n p) := by
  refine Free.tuple fun e he => ?_
  simp only [List.mem_cons, List.not_mem_nil, or_false] at he
  rcases he with rfl | rfl | rfl <;> (refine Free.name ?_; intro v hv e; simp only [List.mem_cons, List.not_mem_nil, or_false] at hv; rcases hv with rfl | rfl | rfl <;> rfl)

theorem st18 {E : List Tri} {wn wd : Str} {rn rd : Wsp} (G : GLaw W K C) (h1 : witT rn rd = E) (h2 : witT rd rn = E.map flip3) (l1 : rn.count.length ≤ 2 ^ 17) (l2 : rd.count.length ≤ 2 ^ 17) (l3 : rn.b ≤ 2 ^ 17) (l4 : rd.b ≤ 2 ^ 17) (hE : E.length ≤ 1000) :
    X1 W (d + 3) (lawW zscript zdrawn zk zstart zbits znumber zsaid zmail ztold ztyped zeven zhooks zlead zgap (sInst C wn rn) zfar (sInst C wd rd) zways zdue (.fz (.d (trisD E))) zt zcolumn zseen zodd zshift) β (lSt 18) (.next (lawW zscript zdrawn zk zstart zbits znumber zsaid zmail ztold ztyped zeven zhooks zlead zgap (sInst C wn rn) zfar (sInst C wd rd) zways zdue (.fz (.d (trisD E))) zt zcolumn zseen zodd zshift)) β := by
  refine X1.ite (b := false) (β1 := β) (Et.cast (Et.or' (a := false) (b := false) (Et.cast (Et.cmpk (.dat (trisD E)) (.dat (trisD E)) ?_ (Ev.var (by (repeat (first | exact List.mem_cons_self | refine List.mem_cons_of_mem _ ?_)))) (Op.ned (tri_shaped _) (tri_shaped _))) (by rw [tri_eqv]; rfl)) fun _ => Et.cast (Et.cmpk (.dat (trisD (E.map flip3))) (.new ((E.map flip3).map triD)) ?_ ?_ (Op.ned (tri_shaped _) (tri_shaped _))) (by rw [show PyData.eqv (trisD (E.map flip3)) (.list ((E.map flip3).map triD)) = true from tri_eqv _]; rfl)) rfl) (fun z => by cases z) fun _ => Ex.nil
  · have := wit_mt (W := W) (β := β) (d := d + 1) (ws := wn) (ws' := wd) (r := rn) (r' := rd) G.ws G.m.b l1 l2 l3 l4
    rw [wit_tri, h1] at this
    exact Ev.meth (p := .val (pInst C wn rn)) (β1 := β) (β2 := β) (ps := [pInst C wd rd]) (Ev.var (by (repeat (first | exact List.mem_cons_self | refine List.mem_cons_of_mem _ ?_)))) (Evs.consk (.val (pInst C wd rd)) (Ev.var (by (repeat (first | exact List.mem_cons_self | refine List.mem_cons_of_mem _ ?_)))) Evs.nil) this
  · have := wit_mt (W := W) (β := β) (d := d + 1) (ws := wd) (ws' := wn) (r := rd) (r' := rn) G.ws G.m.b l2 l1 l4 l3
    rw [wit_tri, h2] at this
    exact Ev.meth (p := .val (pInst C wd rd)) (β1 := β) (β2 := β) (ps := [pInst C wn rn]) (Ev.var (by (repeat (first | exact List.mem_cons_self | refine List.mem_cons_of_mem _ ?_)))) (Evs.consk (.val (pInst C wn rn)) (Ev.var (by (repeat (first | exact List.mem_cons_self | refine List.mem_cons_of_mem _ ?_)))) Evs.nil) this
  · rw [List.map_map]
    refine Ev.compk (.dat (trisD E)) (E.map fun x => PV.d (triD x)) (tabV .unb .unb .unb) _ ?_ (items_tri E) ?_ ?_ ?_ ?_ ?_
    · exact Ev.var (by (repeat (first | exact List.mem_cons_self | refine List.mem_cons_of_mem _ ?_)))
    · (repeat (first | exact FreeOk.nil | (refine FreeOk.skip ?_ ?_; decide) | (apply FreeOk.free; (repeat (first | exact List.mem_cons_self | refine List.mem_cons_of_mem _ ?_)); (intro h; nomatch h))))
    · (repeat (first | exact CV.nil | (refine CV.loc ?_ ?_ ?_; (exact ⟨by decide, by decide⟩); (decide)) | (refine CV.glob ?_ ?_ ?_; (exact ⟨by decide, by decide⟩); (decide)) | (apply CV.free; (repeat (first | exact List.mem_cons_self | refine List.mem_cons_of_mem _ ?_)); (intro h; nomatch h); (decide)) | (refine CV.cell ?_ ?_ ?_; (exact ⟨by decide, by decide⟩); (decide))))
    · refine RunsS.elt0 (α := Tri) _ (fun (x : Tri) => tabV (sInt x.1) (sInt x.2.1) (sInt x.2.2)) _ E ?_ ?_
      · intro x hx
        exact .tuple (.cons (l := .loc) (sl := .unb) (by (repeat (first | exact List.mem_cons_self | refine List.mem_cons_of_mem _ ?_))) (by simp) (by simp) (.cons (l := .loc) (sl := .unb) (by (repeat (first | exact List.mem_cons_self | refine List.mem_cons_of_mem _ ?_))) (by simp) (by simp) (.cons (l := .loc) (sl := .unb) (by (repeat (first | exact List.mem_cons_self | refine List.mem_cons_of_mem _ ?_))) (by simp) (by simp) .nil)))
      · intro x hx
        refine Ev.tuple (ps := [.d (.int (x.1 : Int)), .d (.int (x.2.2 : Int)), .d (.int (x.2.1 : Int))]) ?_ rfl (by simp)
        exact Evs.consk (.int (x.1 : Int)) (Ev.var (by (repeat (first | exact List.mem_cons_self | refine List.mem_cons_of_mem _ ?_)))) (Evs.consk (.int (x.2.2 : Int)) (Ev.var (by (repeat (first | exact List.mem_cons_self | refine List.mem_cons_of_mem _ ?_)))) (Evs.consk (.int (x.2.1 : Int)) (Ev.var (by (repeat (first | exact List.mem_cons_self | refine List.mem_cons_of_mem _ ?_)))) Evs.nil))
    · exact tab_free
    · simp; omega

theorem st19 {S : List Tri} {wn wf : Str} {rn rf : Wsp} (G : GLaw W K C) (h1 : witT rn rf = S) (l1 : rn.count.length ≤ 2 ^ 17) (l2 : rf.count.length ≤ 2 ^ 17) (l3 : rn.b ≤ 2 ^ 17) (l4 : rf.b ≤ 2 ^ 17) (hz : zseen ≠ .glob) :
    X1 W (d + 3) (lawW zscript zdrawn zk zstart zbits znumber zsaid zmail ztold ztyped zeven zhooks zlead zgap (sInst C wn rn) (sInst C wf rf) zdeep zways zdue zeach zt zcolumn zseen zodd zshift) β (lSt 19) (.next (lawW zscript zdrawn zk zstart zbits znumber zsaid zmail ztold ztyped zeven zhooks zlead zgap (sInst C wn rn) (sInst C wf rf) zdeep zways zdue zeach zt zcolumn (.fz (.d (trisD S))) zodd zshift)) β := by
  refine X1.assignCell (r := .dat (trisD S)) ?_ (by (repeat (first | exact List.mem_cons_self | refine List.mem_cons_of_mem _ ?_))) hz (fun env h => rfl)
  have := wit_mt (W := W) (β := β) (d := d + 1) (ws := wn) (ws' := wf) (r := rn) (r' := rf) G.ws G.m.b l1 l2 l3 l4
  rw [wit_tri, h1] at this
  exact Ev.meth (p := .val (pInst C wn rn)) (β1 := β) (β2 := β) (ps := [pInst C wf rf]) (Ev.var (by (repeat (first | exact List.mem_cons_self | refine List.mem_cons_of_mem _ ?_)))) (Evs.consk (.val (pInst C wf rf)) (Ev.var (by (repeat (first | exact List.mem_cons_self | refine List.mem_cons_of_mem _ ?_)))) Evs.nil) this

theorem st20 {S : List Tri} {wn wf : Str} {rn rf : Wsp} (G : GLaw W K C) (h2 : witT rf rn = S.map flip3) (l1 : rn.count.length ≤ 2 ^ 17) (l2 : rf.count.length ≤ 2 ^ 17) (l3 : rn.b ≤ 2 ^ 17) (l4 : rf.b ≤ 2 ^ 17) (hE : S.length ≤ 1000) :
    X1 W (d + 3) (lawW zscript zdrawn zk zstart zbits znumber zsaid zmail ztold ztyped zeven zhooks zlead zgap (sInst C wn rn) (sInst C wf rf) zdeep zways (.fz (.d (trisD S))) zeach zt zcolumn (.fz (.d (trisD S))) zodd zshift) β (lSt 20) (.next (lawW zscript zdrawn zk zstart zbits znumber zsaid zmail ztold ztyped zeven zhooks zlead zgap (sInst C wn rn) (sInst C wf rf) zdeep zways (.fz (.d (trisD S))) zeach zt zcolumn (.fz (.d (trisD S))) zodd zshift)) β := by
  refine X1.ite (b := false) (β1 := β) (Et.cast (Et.or' (a := false) (b := false) (Et.cast (Et.cmpk (.dat (trisD S)) (.dat (trisD S)) (Ev.var (by (repeat (first | exact List.mem_cons_self | refine List.mem_cons_of_mem _ ?_)))) (Ev.var (by (repeat (first | exact List.mem_cons_self | refine List.mem_cons_of_mem _ ?_)))) (Op.ned (tri_shaped _) (tri_shaped _))) (by rw [tri_eqv]; rfl)) fun _ => Et.cast (Et.cmpk (.dat (trisD (S.map flip3))) (.new ((S.map flip3).map triD)) ?_ ?_ (Op.ned (tri_shaped _) (tri_shaped _))) (by rw [show PyData.eqv (trisD (S.map flip3)) (.list ((S.map flip3).map triD)) = true from tri_eqv _]; rfl)) rfl) (fun z => by cases z) fun _ => Ex.nil
  · have := wit_mt (W := W) (β := β) (d := d + 1) (ws := wf) (ws' := wn) (r := rf) (r' := rn) G.ws G.m.b l2 l1 l4 l3
    rw [wit_tri, h2] at this
    exact Ev.meth (p := .val (pInst C wf rf)) (β1 := β) (β2 := β) (ps := [pInst C wn rn]) (Ev.var (by (repeat (first | exact List.mem_cons_self | refine List.mem_cons_of_mem _ ?_)))) (Evs.consk (.val (pInst C wn rn)) (Ev.var (by (repeat (first | exact List.mem_cons_self | refine List.mem_cons_of_mem _ ?_)))) Evs.nil) this
  · rw [List.map_map]
    refine Ev.compk (.dat (trisD S)) (S.map fun x => PV.d (triD x)) (tabV .unb .unb .unb) _ ?_ (items_tri S) ?_ ?_ ?_ ?_ ?_
    · exact Ev.var (by (repeat (first | exact List.mem_cons_self | refine List.mem_cons_of_mem _ ?_)))
    · (repeat (first | exact FreeOk.nil | (refine FreeOk.skip ?_ ?_; decide) | (apply FreeOk.free; (repeat (first | exact List.mem_cons_self | refine List.mem_cons_of_mem _ ?_)); (intro h; nomatch h))))
    · (repeat (first | exact CV.nil | (refine CV.loc ?_ ?_ ?_; (exact ⟨by decide, by decide⟩); (decide)) | (refine CV.glob ?_ ?_ ?_; (exact ⟨by decide, by decide⟩); (decide)) | (apply CV.free; (repeat (first | exact List.mem_cons_self | refine List.mem_cons_of_mem _ ?_)); (intro h; nomatch h); (decide)) | (refine CV.cell ?_ ?_ ?_; (exact ⟨by decide, by decide⟩); (decide))))
    · refine RunsS.elt0 (α := Tri) _ (fun (x : Tri) => tabV (sInt x.1) (sInt x.2.1) (sInt x.2.2)) _ S ?_ ?_
      · intro x hx
        exact .tuple (.cons (l := .loc) (sl := .unb) (by (repeat (first | exact List.mem_cons_self | refine List.mem_cons_of_mem _ ?_))) (by simp) (by simp) (.cons (l := .loc) (sl := .unb) (by (repeat (first | exact List.mem_cons_self | refine List.mem_cons_of_mem _ ?_))) (by simp) (by simp) (.cons (l := .loc) (sl := .unb) (by (repeat (first | exact List.mem_cons_self | refine List.mem_cons_of_mem _ ?_))) (by simp) (by simp) .nil)))
      · intro x hx
        refine Ev.tuple (ps := [.d (.int (x.1 : Int)), .d (.int (x.2.2 : Int)), .d (.int (x.2.1 : Int))]) ?_ rfl (by simp)
        exact Evs.consk (.int (x.1 : Int)) (Ev.var (by (repeat (first | exact List.mem_cons_self | refine List.mem_cons_of_mem _ ?_)))) (Evs.consk (.int (x.2.2 : Int)) (Ev.var (by (repeat (first | exact List.mem_cons_self | refine List.mem_cons_of_mem _ ?_)))) (Evs.consk (.int (x.2.1 : Int)) (Ev.var (by (repeat (first | exact List.mem_cons_self | refine List.mem_cons_of_mem _ ?_)))) Evs.nil))
    · exact tab_free
    · simp; omega
end
end
section
set_option maxRecDepth 20000

noncomputable def oddB (k : Nat) (x : Tri) : Bool := (x.1 == 2 ^ k) && decide ((((x.2.2 : Nat) : Int) - ((x.2.1 : Nat) : Int)) / ((x.1 : Nat) : Int) % 2 = 1)
noncomputable def oddAt (S : List Tri) (k : Nat) : List Nat := (S.filter (oddB k)).map fun _ => k
noncomputable def oddOf (S : List Tri) : List Nat := (List.range 3).flatMap (oddAt S)
section
variable {W : Wd} {K : Frag} {C : Addr} {β : Bk} {d : Nat}
variable {zscript zdrawn zk zstart zbits znumber zsaid zmail ztold ztyped zeven zhooks zlead zgap znear zfar zdeep zways zdue zeach zt zcolumn zseen zodd zshift : Slot}
noncomputable abbrev sdV (S : List Tri) (k t a b : Slot) : Vars := [⟨"k", .loc, k⟩, ⟨"t", .loc, t⟩, ⟨"a", .loc, a⟩, ⟨"b", .loc, b⟩, ⟨"seen", .free, .fz (.d (trisD S))⟩]
theorem sd_free {S : List Tri} {k : Slot} {p1 p2 p3 p : Pos} {n : Nat} : Free (sdV S k .unb .unb .unb) (.Tuple [.Name (Str.ofString "t") p1, .Name (Str.ofString "a") p2, .Name (Str.ofString "b") p3] n p) := by
  refine Free.tuple fun e he => ?_
  simp only [List.mem_cons, List.not_mem_nil, or_false] at he
  rcases he with rfl | rfl | rfl <;> (refine Free.name ?_; intro v hv e; simp only [List.mem_cons, List.not_mem_nil, or_false] at hv; rcases hv with rfl | rfl | rfl | rfl | rfl <;> first | rfl | (exfalso; dsimp only at e; revert e; decide))
theorem st21 {S : List Tri} (B : Blt W) (hS : S.length ≤ 1000) (hz : zodd ≠ .glob) :
    X1 W d (lawW zscript zdrawn zk zstart zbits znumber zsaid zmail ztold ztyped zeven zhooks zlead zgap znear zfar zdeep zways zdue zeach zt zcolumn (.fz (.d (trisD S))) zodd zshift) β (lSt 21) (.next (lawW zscript zdrawn zk zstart zbits znumber zsaid zmail ztold ztyped zeven zhooks zlead zgap znear zfar zdeep zways zdue zeach zt zcolumn (.fz (.d (trisD S))) (.own (cInts (oddOf S))) zshift)) β := by
  have hlen : (oddOf S).length ≤ 3000 := by
    unfold oddOf
    rw [List.length_flatMap]
    have h : ∀ k, (oddAt S k).length ≤ 1000 := fun k => by
      unfold oddAt
      rw [List.length_map]
      exact Nat.le_trans (List.length_filter_le _ _) hS
    have e : List.range 3 = [0, 1, 2] := rfl
    rw [e]
    simp only [List.map_cons, List.map_nil, List.sum_cons, List.sum_nil]
    have := h 0; have := h 1; have := h 2
    omega
  refine X1.assignCompk (.val (.rng 0 ((3 : Nat) : Int) 1)) (pInts (List.range 3)) (sdV S .unb .unb .unb .unb) (cInts (oddOf S)) ?_ ?_ ?_ ?_ ?_ ?_ ?_ (by (repeat (first | exact List.mem_cons_self | refine List.mem_cons_of_mem _ ?_))) (fun it acc env => nest_eq _ _ _ _ _ _ _ _ rfl it acc env) hz
  · exact Ev.callk (ps := [.d (.int 3)]) (by (repeat (first | exact List.mem_cons_self | refine List.mem_cons_of_mem _ ?_))) (Evs.consk (.int 3) Ev.int Evs.nil) (Fn.t B.range Op.range1)
  · exact Items.range' 3 (by omega)
  · (repeat (first | exact FreeOk.nil | (refine FreeOk.skip ?_ ?_; decide) | (apply FreeOk.free; (repeat (first | exact List.mem_cons_self | refine List.mem_cons_of_mem _ ?_)); (intro h; nomatch h))))
  · (repeat (first | exact CV.nil | (refine CV.loc ?_ ?_ ?_; (exact ⟨by decide, by decide⟩); (decide)) | (refine CV.glob ?_ ?_ ?_; (exact ⟨by decide, by decide⟩); (decide)) | (apply CV.free; (repeat (first | exact List.mem_cons_self | refine List.mem_cons_of_mem _ ?_)); (intro h; nomatch h); (decide)) | (refine CV.cell ?_ ?_ ?_; (exact ⟨by decide, by decide⟩); (decide))))
  · have := RunsS.map (W := W) (d := d) (σ := sdV S .unb .unb .unb .unb) (target := (genAt (compGens (lSt 21)) 0).target) (ifs := (genAt (compGens (lSt 21)) 0).ifs) (body := nestB (compElt (lSt 21)) (compGens (lSt 21)) (compScope (lSt 21)) (compPos (lSt 21)) 0 (genAt (compGens (lSt 21)) 1).iter) (β := β) (fun (k : Nat) => PV.d (.int (k : Int))) (fun (k : Nat) => sdV S (sInt k) .unb .unb .unb) (fun _ => true) (fun p => cInts (oddAt S p)) (List.range 3) ?_ ?_ ?_
    · have e : ((List.range 3).flatMap fun a => if (fun (_ : Nat) => true) a = true then (fun p => cInts (oddAt S p)) a else []) = cInts (oddOf S) := by
        unfold oddOf
        simp only [if_true]
        rw [show cInts ((List.range 3).flatMap (oddAt S)) = _ from List.map_flatMap ..]
      rw [e] at this
      exact this
    · intro k hk
      exact .name (by (repeat (first | exact List.mem_cons_self | refine List.mem_cons_of_mem _ ?_))) (by simp) (by simp)
    · intro k hk
      exact .nil
    · intro k hk _
      have hk3 := List.mem_range.mp hk
      refine BodyOk.nest (r := .val (.d (trisD S))) (items := S.map fun x => PV.d (triD x)) (g := genAt (compGens (lSt 21)) 1) (β1 := β) ?_ (items_tri S) ?_ (fun _ _ _ => rfl) sd_free rfl rfl ?_
      · exact Ev.var (by (repeat (first | exact List.mem_cons_self | refine List.mem_cons_of_mem _ ?_)))
      · have e : cInts (oddAt S k) = (S.filter (oddB k)).map fun _ => PyData.int (k : Int) := cInts_map ..
        rw [e]
        refine RunsS.elt (α := Tri) (fun x => PV.d (triD x)) (fun x => sdV S (sInt k) (sInt x.1) (sInt x.2.1) (sInt x.2.2)) (oddB k) _ S ?_ ?_ ?_
        · intro x hx
          exact .tuple (.cons (l := .loc) (sl := .unb) (by (repeat (first | exact List.mem_cons_self | refine List.mem_cons_of_mem _ ?_))) (by simp) (by simp) (.cons (l := .loc) (sl := .unb) (by (repeat (first | exact List.mem_cons_self | refine List.mem_cons_of_mem _ ?_))) (by simp) (by simp) (.cons (l := .loc) (sl := .unb) (by (repeat (first | exact List.mem_cons_self | refine List.mem_cons_of_mem _ ?_))) (by simp) (by simp) .nil)))
        · intro x hx
          refine .one (Et.and' (a := x.1 == 2 ^ k) (b := decide ((((x.2.2 : Nat) : Int) - ((x.2.1 : Nat) : Int)) / ((x.1 : Nat) : Int) % 2 = 1)) ?_ fun h => ?_)
          · refine Et.cast (Et.cmpk (.int (x.1 : Int)) (.int ((2 ^ k : Nat) : Int)) (Ev.var (by (repeat (first | exact List.mem_cons_self | refine List.mem_cons_of_mem _ ?_)))) (ev_pow2 (l := .loc) (k := k) (by (repeat (first | exact List.mem_cons_self | refine List.mem_cons_of_mem _ ?_))) (by omega)) Op.eq) ?_
            rw [Bool.eq_iff_iff, beq_iff_eq, beq_iff_eq]; omega
          · have hx1 : x.1 = 2 ^ k := by simpa using h
            have hp : 0 < x.1 := by rw [hx1]; exact Nat.pow_pos (by decide)
            have hp8 : x.1 ≤ 8 := by rw [hx1]; exact Nat.le_trans (Nat.pow_le_pow_right (by decide) (show k ≤ 3 by omega)) (by decide)
            refine Et.cast (Et.cmpk (.int ((((x.2.2 : Nat) : Int) - ((x.2.1 : Nat) : Int)) / ((x.1 : Nat) : Int) % 2)) (.int 1) ?_ Ev.int Op.eq) ?_
            · refine Ev.bink (.int ((((x.2.2 : Nat) : Int) - ((x.2.1 : Nat) : Int)) / ((x.1 : Nat) : Int))) (.int 2) ?_ Ev.int (Op.mod (by decide))
              refine Ev.bink (.int (((x.2.2 : Nat) : Int) - ((x.2.1 : Nat) : Int))) (.int (x.1 : Int)) ?_ (Ev.var (by (repeat (first | exact List.mem_cons_self | refine List.mem_cons_of_mem _ ?_)))) (Op.fdiv (by omega) (by omega))
              exact Ev.bink (.int (x.2.2 : Int)) (.int (x.2.1 : Int)) (Ev.var (by (repeat (first | exact List.mem_cons_self | refine List.mem_cons_of_mem _ ?_)))) (Ev.var (by (repeat (first | exact List.mem_cons_self | refine List.mem_cons_of_mem _ ?_)))) Op.sub
            · rw [Bool.eq_iff_iff, beq_iff_eq, decide_eq_true_eq]
        · intro x hx _
          exact Ev.var (by (repeat (first | exact List.mem_cons_self | refine List.mem_cons_of_mem _ ?_)))
      · intro _ _; rfl
  · (refine Free.name ?_; intro v hv e; simp only [List.mem_cons, List.not_mem_nil, or_false] at hv; (repeat (cases hv with | inl h => (subst h; first | rfl | (exfalso; simp at e)) | inr hv => ?_)); all_goals (subst hv; first | rfl | (exfalso; simp at e)))
  · simp; omega

theorem st22 {ds : List Nat} (B : Blt W) (hz : zshift ≠ .glob) : X1 W d (lawW zscript (sNats ds) zk zstart zbits znumber zsaid zmail ztold ztyped zeven zhooks zlead zgap znear zfar zdeep zways zdue zeach zt zcolumn zseen zodd zshift) β (lSt 22) (.next (lawW zscript (sNats ds) zk zstart zbits znumber zsaid zmail ztold ztyped zeven zhooks zlead zgap znear zfar zdeep zways zdue zeach zt zcolumn zseen zodd (sInt (ds.sum / 3 % 33)))) β := by
  refine X1.assignCell (r := .int ((ds.sum / 3 % 33 : Nat) : Int)) ?_ (by (repeat (first | exact List.mem_cons_self | refine List.mem_cons_of_mem _ ?_))) hz (fun env h => rfl)
  refine Ev.cast (Ev.bink (.int ((ds.sum / 3 : Nat) : Int)) (.int 33) ?_ Ev.int (Op.mod (by decide))) (by simp)
  exact Ev.cast (Ev.bink (.int (ds.sum : Int)) (.int 3) (ev_sum (l := ds) (r := .dat (dInts ds)) B (by (repeat (first | exact List.mem_cons_self | refine List.mem_cons_of_mem _ ?_))) (Ev.var (by (repeat (first | exact List.mem_cons_self | refine List.mem_cons_of_mem _ ?_)))) rfl) Ev.int (Op.fdiv (by decide) (by decide))) (by simp)

theorem st23 {n sh : Nat} {od : List Nat} (G : GLaw W K C) (hn : n < 128) (hsh : sh < 33) (hw : worthT n ≤ 7) (h1 : ∀ k ∈ od, k < 3) (h2 : od.length ≤ 60) (h3 : highOf (od.map (sh + ·)) ≤ 100) (he : prettyS (worthT n * 2 ^ sh) = wordS (od.map (sh + ·))) :
    X1 W (d + 140) (lawW zscript zdrawn zk zstart zbits (sInt n) zsaid zmail ztold ztyped zeven zhooks zlead zgap znear zfar zdeep zways zdue zeach zt zcolumn zseen (sNats od) (sInt sh)) β (lSt 23) (.ret (.d (.bool true))) β := by
  have hbig : worthT n * 2 ^ sh < 16 ^ 20 := by
    have : 2 ^ sh ≤ 2 ^ 33 := Nat.pow_le_pow_right (by decide) (by omega)
    calc worthT n * 2 ^ sh ≤ 7 * 2 ^ 33 := Nat.mul_le_mul hw this
      _ < _ := by decide
  obtain ⟨β', _, _, call⟩ := worth_fn G.worth G.m.b n hn Bk0 Bk0.ok
  refine X1.ret (r := .bool true) (Ev.cast (Ev.cmpk (.str (prettyS (worthT n * 2 ^ sh))) (.str (wordS (od.map (sh + ·)))) ?_ ?_ Op.eqs) ?_)
  · refine Ev.callk (ps := [.d (.int ((worthT n * 2 ^ sh : Nat) : Int))]) (by (repeat (first | exact List.mem_cons_self | refine List.mem_cons_of_mem _ ?_))) (Evs.consk (.int ((worthT n * 2 ^ sh : Nat) : Int)) ?_ Evs.nil) (pretty_fn G.pretty G.m.b G.tabs hbig)
    refine Ev.cast (Ev.bink (.int (worthT n : Int)) (.int ((2 ^ sh : Nat) : Int)) ?_ (ev_pow2 (l := .cell) (k := sh) (by (repeat (first | exact List.mem_cons_self | refine List.mem_cons_of_mem _ ?_))) (by omega)) (Op.mul (mulNat (by omega)))) (by simp)
    exact Ev.callBook G.sys (by (repeat (first | exact List.mem_cons_self | refine List.mem_cons_of_mem _ ?_))) (Ev.var (by (repeat (first | exact List.mem_cons_self | refine List.mem_cons_of_mem _ ?_)))) (call.deep (by omega))
  · refine Ev.callk (ps := [.d (dInts (od.map (sh + ·)))]) (by (repeat (first | exact List.mem_cons_self | refine List.mem_cons_of_mem _ ?_))) (Evs.consk (.new (cInts (od.map (sh + ·)))) ?_ Evs.nil) (words_fn G.m.words G.m.b (fun k hk => by obtain ⟨j, hj, rfl⟩ := List.mem_map.mp hk; have := h1 j hj; omega) (by simp; omega) h3)
    rw [cInts_map]
    refine Ev.compk (.dat (dInts od)) (pInts od) [⟨"k", .loc, .unb⟩, ⟨"shift", .free, sInt sh⟩] _ ?_ ?_ ?_ ?_ ?_ ?_ ?_
    · exact Ev.var (by (repeat (first | exact List.mem_cons_self | refine List.mem_cons_of_mem _ ?_)))
    · exact items_ints od
    · (repeat (first | exact FreeOk.nil | (refine FreeOk.skip ?_ ?_; decide) | (apply FreeOk.free; (repeat (first | exact List.mem_cons_self | refine List.mem_cons_of_mem _ ?_)); (intro h; nomatch h))))
    · (repeat (first | exact CV.nil | (refine CV.loc ?_ ?_ ?_; (exact ⟨by decide, by decide⟩); (decide)) | (refine CV.glob ?_ ?_ ?_; (exact ⟨by decide, by decide⟩); (decide)) | (apply CV.free; (repeat (first | exact List.mem_cons_self | refine List.mem_cons_of_mem _ ?_)); (intro h; nomatch h); (decide)) | (refine CV.cell ?_ ?_ ?_; (exact ⟨by decide, by decide⟩); (decide))))
    · refine RunsS.elt0 (α := Nat) _ (fun (k : Nat) => [⟨"k", .loc, sInt k⟩, ⟨"shift", .free, sInt sh⟩]) _ od ?_ ?_
      · intro k hk
        exact .name (by (repeat (first | exact List.mem_cons_self | refine List.mem_cons_of_mem _ ?_))) (by simp) (by simp)
      · intro k hk
        exact Ev.cast (Ev.bink (.int (sh : Int)) (.int (k : Int)) (Ev.var (by (repeat (first | exact List.mem_cons_self | refine List.mem_cons_of_mem _ ?_)))) (Ev.var (by (repeat (first | exact List.mem_cons_self | refine List.mem_cons_of_mem _ ?_)))) Op.add) (by simp)
    · (refine Free.name ?_; intro v hv e; simp only [List.mem_cons, List.not_mem_nil, or_false] at hv; (repeat (cases hv with | inl h => (subst h; first | rfl | (exfalso; simp at e)) | inr hv => ?_)); all_goals (subst hv; first | rfl | (exfalso; simp at e)))
    · simp; omega
  · rw [he]; simp
end
end
section
set_option maxRecDepth 20000

structure LawOk (ds : List Nat) (n : Nat) (m : Mails) (hk ways : List Nat) (gap sh : Nat) (S : List Tri) : Prop where
  n_eq : numOf (bitsOf ds) = n
  n_lt : n < 128
  said : prettyS n = wordS (onOf (bitsOf ds))
  slen : (prettyS n).length ≤ 2 ^ 20
  sok : ∀ y ∈ Txt.split (prettyS n) ", ", PyData.strOk y = true
  m_eq : mailsOf ds (Txt.split (prettyS n) ", ") = m
  mt : m.mail = m.told
  ft : fixS m.typed = m.even
  tl : m.typed.length ≤ 2 ^ 18
  ml : m.mail.length ≤ 2 ^ 17
  r1 : (Txt.split (fixS m.mail) "\r\n").length ≤ 1000
  r2 : ∀ y ∈ Txt.split (fixS m.mail) "\r\n", y.length ≤ 1000
  hk_eq : hooksOf ((rowsOf (fixS m.mail)).map dotsIn) = hk
  hb : ∀ h ∈ hk, h ≤ 64
  hc : hk.length ≤ 100
  ways_eq : waysOf (bitsOf ds) = ways
  gap_eq : ds.sum % 3 = gap
  sh_eq : ds.sum / 3 % 33 = sh
  e1 : witT (wspOf (nearS hk gap)) (wspOf (deepS hk)) = ts7.map (eachT ways gap)
  e2 : witT (wspOf (deepS hk)) (wspOf (nearS hk gap)) = (ts7.map (eachT ways gap)).map flip3
  e3 : witT (wspOf (nearS hk gap)) (wspOf (farS hk gap)) = S
  e4 : witT (wspOf (farS hk gap)) (wspOf (nearS hk gap)) = S.map flip3
  due : dueL ways gap ts7 = S
  worth : worthT n ≤ 7
  od1 : ∀ k ∈ oddOf S, k < 3
  od2 : (oddOf S).length ≤ 60
  od3 : highOf ((oddOf S).map (sh + ·)) ≤ 100
  fin : prettyS (worthT n * 2 ^ sh) = wordS ((oddOf S).map (sh + ·))
theorem wsp_small {x : Str} {B : Nat} (h : x.length ≤ B) (hB : B + 1 ≤ 2 ^ 17) : (wspOf x).count.length ≤ 2 ^ 17 ∧ (wspOf x).b ≤ 2 ^ 17 := by
  have := wspRun_len x.cps.toList ⟨[], 0, 0, 0⟩
  simp only [List.length_nil, Array.length_toList] at this
  have e : x.cps.size = x.length := rfl
  rw [e] at this
  constructor
  · have h1 := this.1; exact Nat.le_trans h1 (by omega)
  · have h1 := this.2; exact Nat.le_trans h1 (by omega)
theorem near_len {hk : List Nat} {gap : Nat} (hb : ∀ h ∈ hk, h ≤ 64) (hc : hk.length ≤ 100) (hg : gap ≤ 2) : (nearS hk gap).length ≤ 6503 := by
  have l0 := lead_le hb hc
  have l1 : (Txt.mul (Str.ofString " ") (gap : Int)).length ≤ 2 := mulC_le 32 (gap : Int) 2 (by omega)
  have l3 : (Str.ofString "x").length = 1 := rfl
  unfold nearS; rw [Str.length_append', Str.length_append']; omega
theorem far_len {hk : List Nat} {gap : Nat} (hb : ∀ h ∈ hk, h ≤ 64) (hc : hk.length ≤ 100) (hg : gap ≤ 2) : (farS hk gap).length ≤ 6505 := by
  have l0 := far_le hb hc
  have l1 : (Txt.mul (Str.ofString " ") (gap : Int)).length ≤ 2 := mulC_le 32 (gap : Int) 2 (by omega)
  have l3 : (Str.ofString "x \t").length = 3 := rfl
  unfold farS; rw [Str.length_append', Str.length_append']; omega
theorem deep_len {hk : List Nat} (hb : ∀ h ∈ hk, h ≤ 64) (hc : hk.length ≤ 100) : (deepS hk).length ≤ 6507 := by
  have l0 := lead_le hb hc
  have l1 : (Txt.mul (Str.ofString " ") 6).length ≤ 6 := mulC_le 32 6 6 (by omega)
  have l3 : (Str.ofString "x").length = 1 := rfl
  unfold deepS; rw [Str.length_append', Str.length_append']; omega

theorem law_ex {W : Wd} {K : Frag} {C : Addr} {β : Bk} {d : Nat} {ns : List Int} {ds : List Nat} {n gap sh : Nat} {m : Mails} {hk ways : List Nat} {S : List Tri} (G : GLaw W K C) (hn : ns.length ≤ 63) (hds : drawnOf ns = ds) (h : LawOk ds n m hk ways gap sh S) :
    Ex W (d + 140) (lawW (sScr ns) .unb .unb .unb .unb .unb .unb .unb .unb .unb .unb .unb .unb .unb .unb .unb .unb .unb .unb .unb .unb .unb .unb .unb .unb) β (fbody 20 tops) (.ret (.d (.bool true))) β := by
  subst hds
  have hd7 : (drawnOf ns).length = 7 := rfl
  have h7 : (bitsOf (drawnOf ns)).length = 7 := rfl
  have hg : gap ≤ 2 := by have := h.gap_eq; omega
  have hsh : sh < 33 := by have := h.sh_eq; omega
  have hw : ways.length ≤ 100 := by have := ways_len (bitsOf (drawnOf ns)); rw [h.ways_eq] at this; omega
  have wn := wsp_small (near_len h.hb h.hc hg) (by decide)
  have wf := wsp_small (far_len h.hb h.hc hg) (by decide)
  have wd := wsp_small (deep_len h.hb h.hc) (by decide)
  have hS : S.length ≤ 1000 := by
    rw [← h.due]
    unfold dueL
    rw [List.length_map]
    exact Nat.le_trans (List.length_filter_le _ _) (by decide)
  generalize hD : drawnOf ns = ds at h hd7 h7
  refine Ex.consk (lawW (sScr ns) (.own []) .unb .unb .unb .unb .unb .unb .unb .unb .unb .unb .unb .unb .unb .unb .unb .unb .unb .unb .unb .unb .unb .unb .unb) (st0) ?_
  refine Ex.consk (lawW (sScr ns) (.own (cInts ds)) .unb .unb .unb .unb .unb .unb .unb .unb .unb .unb .unb .unb .unb .unb .unb .unb .unb .unb .unb .unb .unb .unb .unb) (hD ▸ st1 G.m.b hn (by simp) (by simp)) ?_
  refine Ex.pre (Gh.freeze (x := "drawn") (l := .loc) (xs := cInts ds) (by (repeat (first | exact List.mem_cons_self | refine List.mem_cons_of_mem _ ?_)))) ?_
  show Ex W (d + 140) (lawW (sScr ns) (sNats ds) .unb .unb .unb .unb .unb .unb .unb .unb .unb .unb .unb .unb .unb .unb .unb .unb .unb .unb .unb .unb .unb .unb .unb) β _ _ _
  refine Ex.consk (lawW (sScr ns) (sNats ds) .unb .unb (sBits (bitsOf ds)) .unb .unb .unb .unb .unb .unb .unb .unb .unb .unb .unb .unb .unb .unb .unb .unb .unb .unb .unb .unb) (st2 (by simp) (by omega)) ?_
  refine Ex.consk (lawW (sScr ns) (sNats ds) .unb .unb (sBits (bitsOf ds)) (sInt n) .unb .unb .unb .unb .unb .unb .unb .unb .unb .unb .unb .unb .unb .unb .unb .unb .unb .unb .unb) (h.n_eq ▸ st3 G.m.b h7 (by simp)) ?_
  refine Ex.consk (lawW (sScr ns) (sNats ds) .unb .unb (sBits (bitsOf ds)) (sInt n) (sStr (prettyS n)) .unb .unb .unb .unb .unb .unb .unb .unb .unb .unb .unb .unb .unb .unb .unb .unb .unb .unb) (st4 G h.n_lt (by simp)) ?_
  refine Ex.consk (lawW (sScr ns) (sNats ds) .unb .unb (sBits (bitsOf ds)) (sInt n) (sStr (prettyS n)) .unb .unb .unb .unb .unb .unb .unb .unb .unb .unb .unb .unb .unb .unb .unb .unb .unb .unb) (st5 G h7 h.said) ?_
  refine Ex.consk (lawW (sScr ns) (sNats ds) .unb .unb (sBits (bitsOf ds)) (sInt n) (sStr (prettyS n)) (sStr m.mail) (sStr m.told) (sStr m.typed) (sStr m.even) .unb .unb .unb .unb .unb .unb .unb .unb .unb .unb .unb .unb .unb .unb) (st6 G hd7 h.slen rfl h.sok h.m_eq (by simp) (by simp) (by simp) (by simp)) ?_
  refine Ex.consk (lawW (sScr ns) (sNats ds) .unb .unb (sBits (bitsOf ds)) (sInt n) (sStr (prettyS n)) (sStr m.mail) (sStr m.told) (sStr m.typed) (sStr m.even) .unb .unb .unb .unb .unb .unb .unb .unb .unb .unb .unb .unb .unb .unb) (st7 G h.mt h.ft h.tl) ?_
  refine Ex.consk (lawW (sScr ns) (sNats ds) .unb .unb (sBits (bitsOf ds)) (sInt n) (sStr (prettyS n)) (sStr m.mail) (sStr m.told) (sStr m.typed) (sStr m.even) (sNats hk) .unb .unb .unb .unb .unb .unb .unb .unb .unb .unb .unb .unb .unb) (st8 G h.ml h.r1 h.r2 h.hk_eq (by simp)) ?_
  refine Ex.consk (lawW (sScr ns) (sNats ds) .unb .unb (sBits (bitsOf ds)) (sInt n) (sStr (prettyS n)) (sStr m.mail) (sStr m.told) (sStr m.typed) (sStr m.even) (sNats hk) (sStr (Txt.join "" (leadL hk))) .unb .unb .unb .unb .unb .unb .unb .unb .unb .unb .unb .unb) (st9 h.hb h.hc (by simp)) ?_
  refine Ex.consk (lawW (sScr ns) (sNats ds) .unb .unb (sBits (bitsOf ds)) (sInt n) (sStr (prettyS n)) (sStr m.mail) (sStr m.told) (sStr m.typed) (sStr m.even) (sNats hk) (sStr (Txt.join "" (leadL hk))) (sInt gap) .unb .unb .unb .unb .unb .unb .unb .unb .unb .unb .unb) (h.gap_eq ▸ st10 G.m.b (by simp)) ?_
  refine Ex.consk (lawW (sScr ns) (sNats ds) .unb .unb (sBits (bitsOf ds)) (sInt n) (sStr (prettyS n)) (sStr m.mail) (sStr m.told) (sStr m.typed) (sStr m.even) (sNats hk) (sStr (Txt.join "" (leadL hk))) (sInt gap) (sInst C (nearS hk gap) (wspOf (nearS hk gap))) .unb .unb .unb .unb .unb .unb .unb .unb .unb .unb) (st11 G h.hb h.hc hg (by simp)) ?_
  refine Ex.consk (lawW (sScr ns) (sNats ds) .unb .unb (sBits (bitsOf ds)) (sInt n) (sStr (prettyS n)) (sStr m.mail) (sStr m.told) (sStr m.typed) (sStr m.even) (sNats hk) (sStr (Txt.join "" (leadL hk))) (sInt gap) (sInst C (nearS hk gap) (wspOf (nearS hk gap))) (sInst C (farS hk gap) (wspOf (farS hk gap))) .unb .unb .unb .unb .unb .unb .unb .unb .unb) (st12 G h.hb h.hc hg (by simp)) ?_
  refine Ex.consk (lawW (sScr ns) (sNats ds) .unb .unb (sBits (bitsOf ds)) (sInt n) (sStr (prettyS n)) (sStr m.mail) (sStr m.told) (sStr m.typed) (sStr m.even) (sNats hk) (sStr (Txt.join "" (leadL hk))) (sInt gap) (sInst C (nearS hk gap) (wspOf (nearS hk gap))) (sInst C (farS hk gap) (wspOf (farS hk gap))) (sInst C (deepS hk) (wspOf (deepS hk))) .unb .unb .unb .unb .unb .unb .unb .unb) (st13 G h.hb h.hc (by simp)) ?_
  refine Ex.consk (lawW (sScr ns) (sNats ds) .unb .unb (sBits (bitsOf ds)) (sInt n) (sStr (prettyS n)) (sStr m.mail) (sStr m.told) (sStr m.typed) (sStr m.even) (sNats hk) (sStr (Txt.join "" (leadL hk))) (sInt gap) (sInst C (nearS hk gap) (wspOf (nearS hk gap))) (sInst C (farS hk gap) (wspOf (farS hk gap))) (sInst C (deepS hk) (wspOf (deepS hk))) (.own (cInts ways)) .unb .unb .unb .unb .unb .unb .unb) (h.ways_eq ▸ st14 G.m.b h7 (by simp)) ?_
  refine Ex.pre (Gh.freeze (x := "ways") (l := .loc) (xs := cInts ways) (by (repeat (first | exact List.mem_cons_self | refine List.mem_cons_of_mem _ ?_)))) ?_
  show Ex W (d + 140) (lawW (sScr ns) (sNats ds) .unb .unb (sBits (bitsOf ds)) (sInt n) (sStr (prettyS n)) (sStr m.mail) (sStr m.told) (sStr m.typed) (sStr m.even) (sNats hk) (sStr (Txt.join "" (leadL hk))) (sInt gap) (sInst C (nearS hk gap) (wspOf (nearS hk gap))) (sInst C (farS hk gap) (wspOf (farS hk gap))) (sInst C (deepS hk) (wspOf (deepS hk))) (sNats ways) .unb .unb .unb .unb .unb .unb .unb) β _ _ _
  refine Ex.consk (lawW (sScr ns) (sNats ds) .unb .unb (sBits (bitsOf ds)) (sInt n) (sStr (prettyS n)) (sStr m.mail) (sStr m.told) (sStr m.typed) (sStr m.even) (sNats hk) (sStr (Txt.join "" (leadL hk))) (sInt gap) (sInst C (nearS hk gap) (wspOf (nearS hk gap))) (sInst C (farS hk gap) (wspOf (farS hk gap))) (sInst C (deepS hk) (wspOf (deepS hk))) (sNats ways) (.own []) .unb .unb .unb .unb .unb .unb) (st15 (by simp)) ?_
  refine Ex.consk (lawW (sScr ns) (sNats ds) .unb .unb (sBits (bitsOf ds)) (sInt n) (sStr (prettyS n)) (sStr m.mail) (sStr m.told) (sStr m.typed) (sStr m.even) (sNats hk) (sStr (Txt.join "" (leadL hk))) (sInt gap) (sInst C (nearS hk gap) (wspOf (nearS hk gap))) (sInst C (farS hk gap) (wspOf (farS hk gap))) (sInst C (deepS hk) (wspOf (deepS hk))) (sNats ways) (.own []) (.own []) .unb .unb .unb .unb .unb) (st16 (by simp)) ?_
  refine Ex.consk (lawW (sScr ns) (sNats ds) .unb .unb (sBits (bitsOf ds)) (sInt n) (sStr (prettyS n)) (sStr m.mail) (sStr m.told) (sStr m.typed) (sStr m.even) (sNats hk) (sStr (Txt.join "" (leadL hk))) (sInt gap) (sInst C (nearS hk gap) (wspOf (nearS hk gap))) (sInst C (farS hk gap) (wspOf (farS hk gap))) (sInst C (deepS hk) (wspOf (deepS hk))) (sNats ways) (.own (S.map triD)) (.own ((ts7.map (eachT ways gap)).map triD)) .unb .unb .unb .unb .unb) (h.due ▸ st17 G.m.b hw) ?_
  refine Ex.pre (Gh.freeze (x := "due") (l := .loc) (xs := S.map triD) (by (repeat (first | exact List.mem_cons_self | refine List.mem_cons_of_mem _ ?_)))) ?_
  show Ex W (d + 140) (lawW (sScr ns) (sNats ds) .unb .unb (sBits (bitsOf ds)) (sInt n) (sStr (prettyS n)) (sStr m.mail) (sStr m.told) (sStr m.typed) (sStr m.even) (sNats hk) (sStr (Txt.join "" (leadL hk))) (sInt gap) (sInst C (nearS hk gap) (wspOf (nearS hk gap))) (sInst C (farS hk gap) (wspOf (farS hk gap))) (sInst C (deepS hk) (wspOf (deepS hk))) (sNats ways) (.fz (.d (trisD S))) (.own ((ts7.map (eachT ways gap)).map triD)) .unb .unb .unb .unb .unb) β _ _ _
  refine Ex.pre (Gh.freeze (x := "each") (l := .loc) (xs := (ts7.map (eachT ways gap)).map triD) (by (repeat (first | exact List.mem_cons_self | refine List.mem_cons_of_mem _ ?_)))) ?_
  show Ex W (d + 140) (lawW (sScr ns) (sNats ds) .unb .unb (sBits (bitsOf ds)) (sInt n) (sStr (prettyS n)) (sStr m.mail) (sStr m.told) (sStr m.typed) (sStr m.even) (sNats hk) (sStr (Txt.join "" (leadL hk))) (sInt gap) (sInst C (nearS hk gap) (wspOf (nearS hk gap))) (sInst C (farS hk gap) (wspOf (farS hk gap))) (sInst C (deepS hk) (wspOf (deepS hk))) (sNats ways) (.fz (.d (trisD S))) (.fz (.d (trisD (ts7.map (eachT ways gap))))) .unb .unb .unb .unb .unb) β _ _ _
  refine Ex.consk (lawW (sScr ns) (sNats ds) .unb .unb (sBits (bitsOf ds)) (sInt n) (sStr (prettyS n)) (sStr m.mail) (sStr m.told) (sStr m.typed) (sStr m.even) (sNats hk) (sStr (Txt.join "" (leadL hk))) (sInt gap) (sInst C (nearS hk gap) (wspOf (nearS hk gap))) (sInst C (farS hk gap) (wspOf (farS hk gap))) (sInst C (deepS hk) (wspOf (deepS hk))) (sNats ways) (.fz (.d (trisD S))) (.fz (.d (trisD (ts7.map (eachT ways gap))))) .unb .unb .unb .unb .unb) (st18 G h.e1 h.e2 wn.1 wd.1 wn.2 wd.2 (by rw [List.length_map]; decide)) ?_
  refine Ex.consk (lawW (sScr ns) (sNats ds) .unb .unb (sBits (bitsOf ds)) (sInt n) (sStr (prettyS n)) (sStr m.mail) (sStr m.told) (sStr m.typed) (sStr m.even) (sNats hk) (sStr (Txt.join "" (leadL hk))) (sInt gap) (sInst C (nearS hk gap) (wspOf (nearS hk gap))) (sInst C (farS hk gap) (wspOf (farS hk gap))) (sInst C (deepS hk) (wspOf (deepS hk))) (sNats ways) (.fz (.d (trisD S))) (.fz (.d (trisD (ts7.map (eachT ways gap))))) .unb .unb (.fz (.d (trisD S))) .unb .unb) (st19 G h.e3 wn.1 wf.1 wn.2 wf.2 (by simp)) ?_
  refine Ex.consk (lawW (sScr ns) (sNats ds) .unb .unb (sBits (bitsOf ds)) (sInt n) (sStr (prettyS n)) (sStr m.mail) (sStr m.told) (sStr m.typed) (sStr m.even) (sNats hk) (sStr (Txt.join "" (leadL hk))) (sInt gap) (sInst C (nearS hk gap) (wspOf (nearS hk gap))) (sInst C (farS hk gap) (wspOf (farS hk gap))) (sInst C (deepS hk) (wspOf (deepS hk))) (sNats ways) (.fz (.d (trisD S))) (.fz (.d (trisD (ts7.map (eachT ways gap))))) .unb .unb (.fz (.d (trisD S))) .unb .unb) (st20 G h.e4 wn.1 wf.1 wn.2 wf.2 hS) ?_
  refine Ex.consk (lawW (sScr ns) (sNats ds) .unb .unb (sBits (bitsOf ds)) (sInt n) (sStr (prettyS n)) (sStr m.mail) (sStr m.told) (sStr m.typed) (sStr m.even) (sNats hk) (sStr (Txt.join "" (leadL hk))) (sInt gap) (sInst C (nearS hk gap) (wspOf (nearS hk gap))) (sInst C (farS hk gap) (wspOf (farS hk gap))) (sInst C (deepS hk) (wspOf (deepS hk))) (sNats ways) (.fz (.d (trisD S))) (.fz (.d (trisD (ts7.map (eachT ways gap))))) .unb .unb (.fz (.d (trisD S))) (.own (cInts (oddOf S))) .unb) (st21 G.m.b hS (by simp)) ?_
  refine Ex.pre (Gh.freeze (x := "odd") (l := .loc) (xs := cInts (oddOf S)) (by (repeat (first | exact List.mem_cons_self | refine List.mem_cons_of_mem _ ?_)))) ?_
  show Ex W (d + 140) (lawW (sScr ns) (sNats ds) .unb .unb (sBits (bitsOf ds)) (sInt n) (sStr (prettyS n)) (sStr m.mail) (sStr m.told) (sStr m.typed) (sStr m.even) (sNats hk) (sStr (Txt.join "" (leadL hk))) (sInt gap) (sInst C (nearS hk gap) (wspOf (nearS hk gap))) (sInst C (farS hk gap) (wspOf (farS hk gap))) (sInst C (deepS hk) (wspOf (deepS hk))) (sNats ways) (.fz (.d (trisD S))) (.fz (.d (trisD (ts7.map (eachT ways gap))))) .unb .unb (.fz (.d (trisD S))) (sNats (oddOf S)) .unb) β _ _ _
  refine Ex.consk (lawW (sScr ns) (sNats ds) .unb .unb (sBits (bitsOf ds)) (sInt n) (sStr (prettyS n)) (sStr m.mail) (sStr m.told) (sStr m.typed) (sStr m.even) (sNats hk) (sStr (Txt.join "" (leadL hk))) (sInt gap) (sInst C (nearS hk gap) (wspOf (nearS hk gap))) (sInst C (farS hk gap) (wspOf (farS hk gap))) (sInst C (deepS hk) (wspOf (deepS hk))) (sNats ways) (.fz (.d (trisD S))) (.fz (.d (trisD (ts7.map (eachT ways gap))))) .unb .unb (.fz (.d (trisD S))) (sNats (oddOf S)) (sInt sh)) (h.sh_eq ▸ st22 G.m.b (by simp)) ?_
  exact Ex.ret (st23 G h.n_lt hsh h.worth h.od1 h.od2 h.od3 h.fin)
end
section
set_option maxRecDepth 20000

noncomputable def consH (c : Nat) : List (List Nat) → List (List Nat)
  | h :: t => (c :: h) :: t
  | [] => [[c]]
/-- a text's pieces between the signs a, b -/
noncomputable def splitG (a b : Nat) : List Nat → List (List Nat)
  | [] => [[]]
  | [c] => [[c]]
  | c :: e :: r => if c = a ∧ e = b then [] :: splitG a b r else consH c (splitG a b (e :: r))
noncomputable def posG (a b : Nat) : Nat → List Nat → List Nat
  | _, [] => []
  | _, [_] => []
  | i, c :: e :: r => if c = a ∧ e = b then i :: posG a b (i + 2) r else posG a b (i + 1) (e :: r)
section
variable {a b : Nat}
theorem posG_hit (i : Nat) (r : List Nat) : posG a b i (a :: b :: r) = i :: posG a b (i + 2) r := by rw [posG, if_pos ⟨rfl, rfl⟩]
theorem posG_miss (i c : Nat) (r : List Nat) (h : ∀ r', c :: r ≠ a :: b :: r') : posG a b i (c :: r) = posG a b (i + 1) r := by
  cases r with
  | nil => rfl
  | cons e r => rw [posG, if_neg (by rintro ⟨rfl, rfl⟩; exact h _ rfl)]
theorem splitG_hit (r : List Nat) : splitG a b (a :: b :: r) = [] :: splitG a b r := by rw [splitG, if_pos ⟨rfl, rfl⟩]
theorem splitG_miss (c : Nat) (r : List Nat) (h : ∀ r', c :: r ≠ a :: b :: r') : splitG a b (c :: r) = consH c (splitG a b r) := by
  cases r with
  | nil => rfl
  | cons e r => rw [splitG, if_neg (by rintro ⟨rfl, rfl⟩; exact h _ rfl)]
theorem splitG_line (v : List Nat) : ∀ u : List Nat, (∀ c ∈ u, c ≠ a) → splitG a b (u ++ a :: b :: v) = u :: splitG a b v := by
  intro u
  induction u with
  | nil => intro _; exact splitG_hit v
  | cons c u ih =>
    intro h
    have hc := h c List.mem_cons_self
    rw [List.cons_append, splitG_miss c _ (fun r' e => hc (by injection e)), ih fun d hd => h d (List.mem_cons_of_mem _ hd)]; rfl
theorem splitG_none : ∀ u : List Nat, (∀ c ∈ u, c ≠ a) → splitG a b u = [u] := by
  intro u
  induction u with
  | nil => intro _; rfl
  | cons c u ih =>
    intro h
    rw [splitG_miss c _ (fun r' e => h c List.mem_cons_self (by injection e)), ih fun d hd => h d (List.mem_cons_of_mem _ hd)]; rfl
theorem splitG_len : ∀ (k : Nat) (l : List Nat), l.length ≤ k → (splitG a b l).length ≤ l.length + 1 ∧ ∀ y ∈ splitG a b l, y.length ≤ l.length := by
  intro k
  induction k with
  | zero => intro l hl; cases l with
    | nil => exact ⟨Nat.le_refl _, fun y hy => by rw [List.mem_singleton.mp hy]; exact Nat.le_refl _⟩
    | cons c l => cases hl
  | succ k ih =>
    intro l hl
    match l, hl with
    | [], _ => exact ⟨Nat.le_refl _, fun y hy => by rw [List.mem_singleton.mp hy]; exact Nat.le_refl _⟩
    | [c], _ => exact ⟨by show 1 ≤ 2; omega, fun y hy => by rw [List.mem_singleton.mp hy]; exact Nat.le_refl _⟩
    | c :: e :: r, hl =>
      rw [splitG]
      simp only [List.length_cons] at hl ⊢
      split
      · obtain ⟨h1, h2⟩ := ih r (by omega)
        refine ⟨by rw [List.length_cons]; omega, fun y hy => ?_⟩
        rcases List.mem_cons.mp hy with rfl | hy
        · exact Nat.zero_le _
        · have := h2 y hy; omega
      · obtain ⟨h1, h2⟩ := ih (e :: r) (by rw [List.length_cons]; omega)
        rw [List.length_cons] at h1 h2
        generalize splitG a b (e :: r) = m at h1 h2
        cases m with
        | nil => exact ⟨by show 1 ≤ _; omega, fun y hy => by rw [List.mem_singleton.mp hy, List.length_singleton]; omega⟩
        | cons h t =>
          refine ⟨Nat.le_trans h1 (by omega), fun y hy => ?_⟩
          rcases List.mem_cons.mp hy with rfl | hy
          · have := h2 h List.mem_cons_self; rw [List.length_cons]; omega
          · have := h2 y (List.mem_cons_of_mem _ hy); omega
noncomputable abbrev sepS (a b : Nat) : Str := ⟨#[a, b]⟩
open StrLaws Builtin.Str in
theorem occ_pos (x : Str) : ∀ (k i : Nat) (found : Array Nat) (free : Nat), i + k = x.length + 1 → found.size ≤ i → free ≤ i →
    (forIn (List.range' i k) (found, free) (occBody x (sepS a b) x.length (x.length + 1))).run.fst.toList = found.toList ++ posG a b i (x.cps.toList.drop i) := by
  intro k
  induction k using Nat.strongRecOn with
  | _ k ih =>
    intro i found free hk hf hfr
    have hn : x.cps.toList.length = x.length := by simp [Str.length]
    cases k with
    | zero =>
      rw [List.drop_of_length_le (by omega)]
      simp [posG]
    | succ k =>
      rw [List.range'_succ, List.forIn_cons]
      by_cases hm : ∃ r, x.cps.toList.drop i = a :: b :: r
      · obtain ⟨r, hr⟩ := hm
        have hlen : i + 2 ≤ x.length := by
          have := congrArg List.length hr
          simp at this
          have e : x.cps.size = x.length := rfl
          omega
        have hsub : subAt x (sepS a b) i = true := by
          rw [subAt_eq, hr, beq_iff_eq]; rfl
        have c1 : (((found, free).fst.size < x.length + 1 ∧ (found, free).snd ≤ i) ∧ i + (sepS a b).length ≤ x.length) ∧ subAt x (sepS a b) i = true := ⟨⟨⟨by show found.size < _; omega, hfr⟩, hlen⟩, hsub⟩
        have e1 : occBody x (sepS a b) x.length (x.length + 1) i (found, free) = pure (ForInStep.yield (found.push i, i + 2)) := by
          unfold occBody; rw [if_pos c1]; rfl
        rw [e1]
        show (forIn (List.range' (i + 1) k) (found.push i, i + 2) (occBody x (sepS a b) x.length (x.length + 1))).run.fst.toList = _
        cases k with
        | zero => omega
        | succ k =>
          rw [List.range'_succ, List.forIn_cons]
          have c2 : ¬ ((((found.push i, i + 2).fst.size < x.length + 1 ∧ (found.push i, i + 2).snd ≤ i + 1) ∧ i + 1 + (sepS a b).length ≤ x.length) ∧ subAt x (sepS a b) (i + 1) = true) := fun h => by
            have : i + 2 ≤ i + 1 := h.1.1.2
            omega
          have e2 : occBody x (sepS a b) x.length (x.length + 1) (i + 1) (found.push i, i + 2) = pure (ForInStep.yield (found.push i, i + 2)) := by
            unfold occBody; rw [if_neg c2]
          rw [e2]
          show (forIn (List.range' (i + 1 + 1) k) (found.push i, i + 2) (occBody x (sepS a b) x.length (x.length + 1))).run.fst.toList = _
          rw [show i + 1 + 1 = i + 2 by omega, ih k (by omega) (i + 2) (found.push i) (i + 2) (by omega) (by simp; omega) (by omega), hr, posG_hit, Array.toList_push]
          have : x.cps.toList.drop (i + 2) = r := by
            rw [← List.drop_drop, hr]; rfl
          rw [this]; simp
      · have hsub : ¬ (((((found, free).fst.size < x.length + 1 ∧ (found, free).snd ≤ i) ∧ i + (sepS a b).length ≤ x.length) ∧ subAt x (sepS a b) i = true)) := fun h => by
          have h1 := h.2
          rw [subAt_eq] at h1
          have h2 : (x.cps.toList.drop i).take 2 = [a, b] := beq_iff_eq.mp h1
          refine hm ⟨(x.cps.toList.drop i).drop 2, ?_⟩
          conv => lhs; rw [← List.take_append_drop 2 (x.cps.toList.drop i), h2]
          rfl
        have e1 : occBody x (sepS a b) x.length (x.length + 1) i (found, free) = pure (ForInStep.yield (found, free)) := by
          unfold occBody; rw [if_neg hsub]
        rw [e1]
        show (forIn (List.range' (i + 1) k) (found, free) (occBody x (sepS a b) x.length (x.length + 1))).run.fst.toList = _
        rw [ih k (by omega) (i + 1) found free (by omega) (by omega) (by omega)]
        congr 1
        by_cases hi : i < x.length
        · have hi' : i < x.cps.toList.length := by omega
          rw [List.drop_eq_getElem_cons hi', posG_miss]
          intro r' e
          exact hm ⟨r', by rw [List.drop_eq_getElem_cons hi', e]⟩
        · rw [List.drop_of_length_le (by omega), List.drop_of_length_le (by omega)]; rfl

open StrLaws Builtin.Str in
theorem parts_split (x : Str) : ∀ (k p i : Nat), x.length - i = k → p ≤ i → i ≤ x.length → ∃ h t, splitG a b (x.cps.toList.drop i) = h :: t ∧ (partsFrom x 2 p (posG a b i (x.cps.toList.drop i))).map (·.cps.toList) = ((x.cps.toList.drop p).take (i - p) ++ h) :: t := by
  have hn : x.cps.toList.length = x.length := by simp [Str.length]
  intro k
  induction k using Nat.strongRecOn with
  | _ k ih =>
    intro p i hk ha hi
    by_cases hm : ∃ r, x.cps.toList.drop i = a :: b :: r
    · obtain ⟨r, hr⟩ := hm
      have hlen : i + 2 ≤ x.length := by
        have := congrArg List.length hr
        simp at this
        have e : x.cps.size = x.length := rfl
        omega
      have hr2 : x.cps.toList.drop (i + 2) = r := by
        rw [← List.drop_drop, hr]; rfl
      obtain ⟨h, t, e1, e2⟩ := ih (x.length - (i + 2)) (by omega) (i + 2) (i + 2) rfl (Nat.le_refl _) hlen
      rw [hr2] at e1 e2
      refine ⟨[], splitG a b r, by rw [hr, splitG_hit], ?_⟩
      rw [hr, posG_hit]
      show (strSub x p i).cps.toList :: (partsFrom x 2 (i + 2) (posG a b (i + 2) r)).map (·.cps.toList) = _
      rw [e2, e1, strSub_toList]
      simp
    · by_cases hi' : i < x.length
      · have hi2 : i < x.cps.toList.length := by omega
        obtain ⟨h, t, e1, e2⟩ := ih (x.length - (i + 1)) (by omega) p (i + 1) rfl (by omega) (by omega)
        have hd := List.drop_eq_getElem_cons hi2
        have hne : ∀ r', x.cps.toList[i] :: x.cps.toList.drop (i + 1) ≠ a :: b :: r' := fun r' e => hm ⟨r', by rw [hd, e]⟩
        rw [hd, posG_miss _ _ _ hne, splitG_miss _ _ hne, e1]
        refine ⟨_, _, rfl, ?_⟩
        rw [e2]
        congr 1
        have ht : (x.cps.toList.drop p).take (i + 1 - p) = (x.cps.toList.drop p).take (i - p) ++ [x.cps.toList[i]] := by
          rw [show i + 1 - p = i - p + 1 by omega, List.take_add_one, List.getElem?_drop, show p + (i - p) = i by omega, List.getElem?_eq_getElem hi2]
          rfl
        rw [ht]; simp
      · have hin : i = x.length := by omega
        rw [List.drop_of_length_le (by omega)]
        refine ⟨[], [], rfl, ?_⟩
        show [(strSub x p x.length).cps.toList] = _
        rw [strSub_toList, hin]; simp

open StrLaws Builtin.Str in
theorem split_gen (h1k : Builtin.Str.strKind (sepS a b) = 1) (x : Str) : (Txt.split x (sepS a b)).map (·.cps.toList) = splitG a b x.cps.toList := by
  have hn : x.cps.toList.length = x.length := by simp [Str.length]
  have ho : occurrences x (sepS a b) 0 x.length (x.length + 1) = posG a b 0 x.cps.toList := by
    rw [occ_eq, Nat.sub_zero, occ_pos x (x.length + 1) 0 #[] 0 (by omega) (by simp) (by simp)]
    simp
  obtain ⟨h, t, e1, e2⟩ := parts_split x x.length 0 0 (by omega) (Nat.le_refl _) (Nat.zero_le _)
  rw [List.drop_zero] at e1 e2
  have main : (partsFrom x 2 0 (posG a b 0 x.cps.toList)).map (·.cps.toList) = splitG a b x.cps.toList := by
    rw [e2, e1]; simp
  have one : posG a b 0 x.cps.toList = [] → [x].map (·.cps.toList) = splitG a b x.cps.toList := fun h => by
    rw [← main, h]
    show _ = [(strSub x 0 x.length).cps.toList]
    rw [sub_whole]; rfl
  unfold Txt.split
  split
  · rename_i hc
    refine one ?_
    have hk : ¬ (Builtin.Str.strKind x < Builtin.Str.strKind (sepS a b)) := by
      rw [h1k]
      unfold Builtin.Str.strKind
      split
      · omega
      · split <;> omega
    have hlt : x.length < 2 := by
      rw [Bool.or_eq_true, decide_eq_true_eq, decide_eq_true_eq] at hc
      exact hc.resolve_right hk
    generalize x.cps.toList = L at hn
    match L, hn with
    | [], _ => rfl
    | [c], _ => rw [posG_miss _ _ _ (fun r' e => by cases e)]; rfl
    | _ :: _ :: _, hn => simp at hn; omega
  · rw [ho]
    split
    · rename_i he
      exact one (by simpa using he)
    · rw [partsBetween_eq]
      exact main
end
noncomputable abbrev splitC : List Nat → List (List Nat) := splitG 13 10
noncomputable abbrev splitD : List Nat → List (List Nat) := splitG 44 32
theorem split_crlf (x : Str) : (Txt.split x "\r\n").map (·.cps.toList) = splitC x.cps.toList := split_gen (a := 13) (b := 10) (by decide +kernel) x
theorem split_comma (x : Str) : (Txt.split x ", ").map (·.cps.toList) = splitD x.cps.toList := split_gen (a := 44) (b := 32) (by decide +kernel) x
end
section
set_option maxRecDepth 20000

noncomputable def markLs : List (List Nat) := [[], [97], [32, 46], [10, 10, 13, 13, 32, 46]]
noncomputable def endLs : List (List Nat) := [[10], [13], [13, 10]]
noncomputable def markELs : List (List Nat) := [[], [97], [32, 46], [13, 10, 13, 10, 13, 10, 13, 10, 32, 46]]
noncomputable def laidIJ (i j : Nat) : List Nat := 46 :: (markLs.getD i [] ++ endLs.getD j [])
noncomputable def evenI (i : Nat) : List Nat := 46 :: (markELs.getD i [] ++ [13, 10])
noncomputable def laidL (d : Nat) : List Nat := laidIJ (d / 6 % 4) (d / 2 % 3)
noncomputable def evenL (d : Nat) : List Nat := evenI (d / 6 % 4)
theorem laid_fin : ∀ i < 4, ∀ j < 3, ((Str.ofString "." ++ marks.getD i "") ++ ends.getD j "").cps.toList = laidIJ i j := by decide +kernel
theorem even_fin : ∀ i < 4, ((Str.ofString "." ++ marksE.getD i "") ++ Str.ofString "\r\n").cps.toList = evenI i := by decide +kernel
theorem laid_list (d : Nat) : (laid d).cps.toList = laidL d := laid_fin _ (Nat.mod_lt _ (by decide)) _ (Nat.mod_lt _ (by decide))
theorem even_list (d : Nat) : (even d).cps.toList = evenL d := even_fin _ (Nat.mod_lt _ (by decide))
theorem Str.toList_append (x y : Str) : (x ++ y).cps.toList = x.cps.toList ++ y.cps.toList := by
  show (x.cps ++ y.cps).toList = _
  simp

theorem fixL_miss (c : Nat) (r : List Nat) (h : ∀ r', c :: r ≠ 13 :: 10 :: r') : fixL (c :: r) = if c = 13 ∨ c = 10 then 13 :: 10 :: fixL r else c :: fixL r := by
  rw [fixL]
  rintro r' rfl e
  exact h r' (by rw [e])
theorem fixL_appAux (v : List Nat) (hv : v.head? ≠ some 10) (c : Nat) (r : List Nat) (hne : ∀ (r_1 : List Nat), c = 13 → r = 10 :: r_1 → False) (ih : fixL (r ++ v) = fixL r ++ fixL v) : fixL (c :: r ++ v) = fixL (c :: r) ++ fixL v := by
  have h1 : ∀ r', c :: r ≠ 13 :: 10 :: r' := fun r' e => by cases e; exact hne _ rfl rfl
  have h2 : ∀ r', c :: (r ++ v) ≠ 13 :: 10 :: r' := fun r' e => by
    cases r with
    | nil =>
      rw [List.nil_append] at e
      injection e with e1 e2
      rw [e2] at hv; exact hv rfl
    | cons x r => cases e; exact h1 _ rfl
  rw [List.cons_append, fixL_miss c _ h1, fixL_miss c _ h2, ih]
  split <;> rfl
theorem fixL_app (v : List Nat) (hv : v.head? ≠ some 10) : ∀ u : List Nat, fixL (u ++ v) = fixL u ++ fixL v := by
  intro u
  induction u using fixL.induct with
  | case1 r ih => rw [List.cons_append, List.cons_append, fixL_crlf, fixL_crlf, ih]; rfl
  | case2 c r hne hc ih => exact fixL_appAux v hv c r hne ih
  | case3 c r hne hc ih => exact fixL_appAux v hv c r hne ih
  | case4 => rfl
noncomputable def lineEnd : Bool → List Nat → Bool
  | b, [] => b
  | _, c :: r => lineEnd (c == 10) r
theorem dotL_miss (b : Bool) (c : Nat) (r : List Nat) (h : ¬ (b = true ∧ c = 46)) : dotL b (c :: r) = c :: dotL (c == 10) r := by
  rw [dotL]
  rintro hb hc
  exact h ⟨hb, hc⟩
theorem dotL_app (v : List Nat) : ∀ (u : List Nat) (b : Bool), dotL b (u ++ v) = dotL b u ++ dotL (lineEnd b u) v := by
  intro u
  induction u with
  | nil => intro b; cases b <;> simp [dotL, lineEnd]
  | cons c u ih =>
    intro b
    rw [List.cons_append]
    by_cases h : b = true ∧ c = 46
    · obtain ⟨rfl, rfl⟩ := h
      show 46 :: 46 :: dotL false (u ++ v) = (46 :: 46 :: dotL false u) ++ dotL (lineEnd false u) v
      rw [ih]; rfl
    · rw [dotL_miss b c _ h, dotL_miss b c _ h, ih]; rfl
theorem fixL_dots (k : Nat) (l : List Nat) : fixL (List.replicate k 46 ++ l) = List.replicate k 46 ++ fixL l := by
  induction k with
  | zero => rfl
  | succ k ih =>
    rw [List.replicate_succ, List.cons_append, fixL_miss 46 _ (fun r' e => by cases e), if_neg (by decide), ih]; rfl
theorem dotL_dots (k : Nat) (l : List Nat) : dotL false (List.replicate k 46 ++ l) = List.replicate k 46 ++ dotL false l := by
  induction k with
  | zero => rfl
  | succ k ih =>
    rw [List.replicate_succ, List.cons_append, dotL_miss false 46 _ (fun e => by cases e.1)]
    show 46 :: dotL false _ = _
    rw [ih]; rfl
theorem lineEnd_app (v : List Nat) : ∀ (u : List Nat) (b : Bool), lineEnd b (u ++ v) = lineEnd (lineEnd b u) v := by
  intro u
  induction u with
  | nil => intro b; rfl
  | cons c u ih => intro b; exact ih _
theorem fix_laid : ∀ i < 4, ∀ j < 3, fixL (laidIJ i j) = evenI i := by decide +kernel
theorem fix_even : ∀ i < 4, fixL (evenI i) = evenI i := by decide +kernel
theorem dot_even : ∀ i < 4, dotL false (evenI i) = evenI i ∧ ∀ b, lineEnd b (evenI i) = true := by decide +kernel
noncomputable def chL (k d : Nat) : List Nat := if k = 0 then laidL d else List.replicate k 46 ++ evenL d
noncomputable def cxL (k d : Nat) : List Nat := List.replicate k 46 ++ evenL d
theorem ch_fix (k d : Nat) : fixL (chL k d) = cxL k d := by
  unfold chL cxL
  by_cases h : k = 0
  · rw [if_pos h, h]
    exact fix_laid _ (Nat.mod_lt _ (by decide)) _ (Nat.mod_lt _ (by decide))
  · rw [if_neg h, fixL_dots]
    congr 1
    exact fix_even _ (Nat.mod_lt _ (by decide))
theorem ch_head (k d : Nat) (r : List Nat) : (chL k d ++ r).head? ≠ some 10 := by
  unfold chL
  split
  · simp [laidL, laidIJ]
  · rename_i h
    obtain ⟨m, rfl⟩ : ∃ m, k = m + 1 := ⟨k - 1, by omega⟩
    simp [List.replicate_succ]
theorem cx_dot (k d : Nat) : dotL true (cxL k d) = cxL (k + 1) d := by
  have h := (dot_even _ (Nat.mod_lt (d / 6) (show 0 < 4 by decide))).1
  unfold cxL evenL
  cases k with
  | zero =>
    have e : dotL false (evenI (d / 6 % 4)) = 46 :: dotL false (evenI (d / 6 % 4)).tail := by unfold evenI; rfl
    have e2 : dotL true (evenI (d / 6 % 4)) = 46 :: 46 :: dotL false (evenI (d / 6 % 4)).tail := by unfold evenI; rfl
    show dotL true (evenI (d / 6 % 4)) = 46 :: evenI (d / 6 % 4)
    rw [e2, ← e, h]
  | succ k =>
    rw [List.replicate_succ, List.cons_append]
    show 46 :: 46 :: dotL false (List.replicate k 46 ++ evenI (d / 6 % 4)) = _
    rw [dotL_dots, h]; rfl
theorem cx_end (k d : Nat) : lineEnd true (cxL k d) = true := by
  unfold cxL
  rw [lineEnd_app]
  exact (dot_even _ (Nat.mod_lt (d / 6) (show 0 < 4 by decide))).2 _
noncomputable def cat (cs : List (Nat × Nat)) : List Nat := (cs.map fun c => chL c.1 c.2).flatten
noncomputable def catx (cs : List (Nat × Nat)) : List Nat := (cs.map fun c => cxL c.1 c.2).flatten
theorem cat_fix (cs : List (Nat × Nat)) : fixL (cat cs) = catx cs := by
  induction cs with
  | nil => rfl
  | cons c cs ih =>
    show fixL (chL c.1 c.2 ++ cat cs) = cxL c.1 c.2 ++ catx cs
    rw [fixL_app, ch_fix, ih]
    cases cs with
    | nil => simp [cat]
    | cons e cs => exact ch_head _ _ _
theorem catx_dot (cs : List (Nat × Nat)) : dotL true (catx cs) = catx (cs.map fun c => (c.1 + 1, c.2)) := by
  induction cs with
  | nil => rfl
  | cons c cs ih =>
    show dotL true (cxL c.1 c.2 ++ catx cs) = cxL (c.1 + 1) c.2 ++ catx _
    rw [dotL_app, cx_end, cx_dot, ih]
theorem catx_cat (cs : List (Nat × Nat)) : catx (cs.map fun c => (c.1 + 1, c.2)) = cat (cs.map fun c => (c.1 + 1, c.2)) := by
  unfold catx cat
  rw [List.map_map, List.map_map]
  congr 1
theorem cat_quote (cs : List (Nat × Nat)) : dotL true (fixL (cat cs)) = cat (cs.map fun c => (c.1 + 1, c.2)) := by
  rw [cat_fix, catx_dot, catx_cat]
theorem cat_app (a b : List (Nat × Nat)) : cat (a ++ b) = cat a ++ cat b := by
  unfold cat; simp
theorem fixS_list (x : Str) : (fixS x).cps.toList = fixL x.cps.toList := by unfold fixS; simp
theorem dotS_list (x : Str) : (dotS x).cps.toList = dotL true x.cps.toList := by unfold dotS; simp

noncomputable def procIdx (bits : List Nat) : List Nat → List (Nat × Nat) → List (Nat × Nat)
  | [], cs => cs
  | p :: r, cs => procIdx bits r (if bits.getD p 0 = 1 then cs ++ [(0, p)] else cs.map fun c => (c.1 + 1, c.2))
noncomputable def atD (ds : List Nat) (cs : List (Nat × Nat)) : List (Nat × Nat) := cs.map fun c => (c.1, ds.getD c.2 0)
noncomputable def onB (bits : List Nat) (p : Nat) : Bool := decide (bits.getD p 0 = 1)
section
variable {ds bits : List Nat} {said : List Str}
theorem mail_fold : ∀ (l : List Nat) (m : Mails) (cs : List (Nat × Nat)), (∀ p ∈ l, said.any (fun y => y == wordS [p]) = onB bits p) → m.mail.cps.toList = cat (atD ds cs) → (l.foldl (mailStep ds bits said) m).mail.cps.toList = cat (atD ds (procIdx bits l cs)) := by
  intro l
  induction l with
  | nil => intro m cs _ h; exact h
  | cons p l ih =>
    intro m cs hp h
    rw [List.foldl_cons]
    unfold procIdx
    refine ih _ _ (fun q hq => hp q (List.mem_cons_of_mem _ hq)) ?_
    have hp0 := hp p List.mem_cons_self
    show (if said.any (fun y => y == wordS [p]) = true then m.mail ++ laid (ds.getD p 0) else dotS (fixS m.mail)).cps.toList = _
    rw [hp0]
    unfold onB
    by_cases hb : bits.getD p 0 = 1
    · rw [if_pos (by simpa using hb), if_pos hb, Str.toList_append, h, laid_list]
      unfold atD
      rw [List.map_append, cat_app]
      congr 1
      simp [cat, chL]
    · rw [if_neg (by simpa using hb), if_neg hb, dotS_list, fixS_list, h, cat_quote]
      unfold atD
      rw [List.map_map, List.map_map]; rfl
theorem told_list (p : Nat) : (toldOf ds bits p).cps.toList = chL (freeOf bits p) (ds.getD p 0) := by
  unfold toldOf chL
  split
  · exact laid_list _
  · rw [Str.toList_append, even_list]
    congr 1
    exact mulC 46 _
theorem told_fold : ∀ (l : List Nat) (m : Mails), (l.foldl (mailStep ds bits said) m).told.cps.toList = m.told.cps.toList ++ cat ((l.filter (onB bits)).map fun p => (freeOf bits p, ds.getD p 0)) := by
  intro l
  induction l with
  | nil => intro m; simp [cat]
  | cons p l ih =>
    intro m
    rw [List.foldl_cons, ih]
    show (if bits.getD p 0 = 1 then m.told ++ toldOf ds bits p else m.told).cps.toList ++ _ = _
    by_cases hb : bits.getD p 0 = 1
    · rw [if_pos hb, Str.toList_append, told_list, List.filter_cons_of_pos (by unfold onB; simpa using hb), List.append_assoc]
      rfl
    · rw [if_neg hb, List.filter_cons_of_neg (by unfold onB; simpa using hb)]
theorem typed_fold : ∀ (l : List Nat) (m : Mails), (l.foldl (mailStep ds bits said) m).typed.cps.toList = m.typed.cps.toList ++ cat ((l.filter (onB bits)).map fun p => (0, ds.getD p 0)) := by
  intro l
  induction l with
  | nil => intro m; simp [cat]
  | cons p l ih =>
    intro m
    rw [List.foldl_cons, ih]
    show (if bits.getD p 0 = 1 then m.typed ++ laid (ds.getD p 0) else m.typed).cps.toList ++ _ = _
    by_cases hb : bits.getD p 0 = 1
    · rw [if_pos hb, Str.toList_append, laid_list, List.filter_cons_of_pos (by unfold onB; simpa using hb), List.append_assoc]
      rfl
    · rw [if_neg hb, List.filter_cons_of_neg (by unfold onB; simpa using hb)]
theorem even_fold : ∀ (l : List Nat) (m : Mails), (l.foldl (mailStep ds bits said) m).even.cps.toList = m.even.cps.toList ++ catx ((l.filter (onB bits)).map fun p => (0, ds.getD p 0)) := by
  intro l
  induction l with
  | nil => intro m; simp [catx]
  | cons p l ih =>
    intro m
    rw [List.foldl_cons, ih]
    show (if bits.getD p 0 = 1 then m.even ++ even (ds.getD p 0) else m.even).cps.toList ++ _ = _
    by_cases hb : bits.getD p 0 = 1
    · rw [if_pos hb, Str.toList_append, even_list, List.filter_cons_of_pos (by unfold onB; simpa using hb), List.append_assoc]
      rfl
    · rw [if_neg hb, List.filter_cons_of_neg (by unfold onB; simpa using hb)]
end
noncomputable def pl7 : List Nat := [6, 5, 4, 3, 2, 1, 0]
/-- the mail, given that the words tell the flags -/
theorem mails_ok {ds : List Nat} {said : List Str} (hs : ∀ p ∈ pl7, said.any (fun y => y == wordS [p]) = onB (ds.map (· % 2)) p) (hp : procIdx (ds.map (· % 2)) pl7 [] = (pl7.filter (onB (ds.map (· % 2)))).map fun p => (freeOf (ds.map (· % 2)) p, p)) :
    (mailsOf ds said).mail = (mailsOf ds said).told ∧ fixS (mailsOf ds said).typed = (mailsOf ds said).even ∧ (fixS (mailsOf ds said).mail).cps.toList = catx ((pl7.filter (onB (ds.map (· % 2)))).map fun p => (freeOf (ds.map (· % 2)) p, ds.getD p 0)) := by
  have h1 := mail_fold (ds := ds) (bits := ds.map (· % 2)) (said := said) pl7 ⟨"", "", "", ""⟩ [] hs rfl
  have h2 := told_fold (ds := ds) (bits := ds.map (· % 2)) (said := said) pl7 ⟨"", "", "", ""⟩
  have h3 := typed_fold (ds := ds) (bits := ds.map (· % 2)) (said := said) pl7 ⟨"", "", "", ""⟩
  have h4 := even_fold (ds := ds) (bits := ds.map (· % 2)) (said := said) pl7 ⟨"", "", "", ""⟩
  rw [hp] at h1
  have e0 : (Str.ofString "").cps.toList = [] := rfl
  rw [e0, List.nil_append] at h2 h3 h4
  have hm : atD ds ((pl7.filter (onB (ds.map (· % 2)))).map fun p => (freeOf (ds.map (· % 2)) p, p)) = (pl7.filter (onB (ds.map (· % 2)))).map fun p => (freeOf (ds.map (· % 2)) p, ds.getD p 0) := by
    unfold atD; rw [List.map_map]; rfl
  rw [hm] at h1
  refine ⟨Str.ext' (h1.trans h2.symm), Str.ext' ?_, ?_⟩
  · rw [fixS_list]
    show fixL _ = _
    exact (congrArg fixL h3).trans ((cat_fix _).trans h4.symm)
  · rw [fixS_list]
    exact (congrArg fixL h1).trans (cat_fix _)
end
section
set_option maxRecDepth 20000

noncomputable def gRow (l : List Nat) : Option Nat := if (Txt.slice ⟨l.toArray⟩ none (some 1) == (Str.ofString ".")) = true then some (dotsIn ⟨l.toArray⟩) else none
theorem rows_dots (x : Str) : (rowsOf x).map dotsIn = (splitC x.cps.toList).filterMap gRow := by
  rw [← split_crlf]
  unfold rowsOf
  generalize Txt.split x "\r\n" = l
  induction l with
  | nil => rfl
  | cons y l ih =>
    have e : gRow y.cps.toList = if (Txt.slice y none (some 1) == (Str.ofString ".")) = true then some (dotsIn y) else none := rfl
    rw [List.map_cons]
    by_cases h : (Txt.slice y none (some 1) == (Str.ofString ".")) = true
    · rw [if_pos h] at e
      rw [List.filter_cons_of_pos (by exact h), List.map_cons, List.filterMap_cons_some e, ih]
    · rw [if_neg h] at e
      rw [List.filter_cons_of_neg (by exact h), List.filterMap_cons_none e, ih]
theorem splitC_line (v u : List Nat) (h : ∀ c ∈ u, c ≠ 13) : splitC (u ++ 13 :: 10 :: v) = u :: splitC v := splitG_line v u h
theorem splitC_len (l : List Nat) : (splitC l).length ≤ l.length + 1 ∧ ∀ y ∈ splitC l, y.length ≤ l.length := splitG_len l.length l (Nat.le_refl _)
noncomputable def tails : List (List Nat) := [[], [97], [32, 46]]
theorem gRow_fin : ∀ k < 8, ∀ i < 3, gRow (List.replicate k 46 ++ 46 :: tails.getD i []) = some (k + 1) := by decide +kernel
theorem gRow_nil : gRow [] = none := by decide +kernel
theorem gRow_sp : gRow [32, 46] = none := by decide +kernel
theorem rows_chunk (k d : Nat) (hk : k < 8) (v : List Nat) : (splitC (cxL k d ++ v)).filterMap gRow = (k + 1) :: (splitC v).filterMap gRow := by
  have no13 : ∀ i < 3, ∀ c ∈ List.replicate k 46 ++ 46 :: tails.getD i [], c ≠ 13 := fun i hi c hc => by
    rcases List.mem_append.mp hc with h | h
    · rw [(List.mem_replicate.mp h).2]; decide
    · have : ∀ i < 3, ∀ c ∈ 46 :: tails.getD i [], c ≠ 13 := by decide
      exact this i hi c h
  unfold cxL evenL
  have hi : d / 6 % 4 < 4 := Nat.mod_lt _ (by decide)
  generalize d / 6 % 4 = i at hi
  have small : ∀ i < 3, evenI i = 46 :: tails.getD i [] ++ [13, 10] := by decide
  by_cases h3 : i < 3
  · rw [small i h3]
    have e : List.replicate k 46 ++ (46 :: tails.getD i [] ++ [13, 10]) ++ v = (List.replicate k 46 ++ 46 :: tails.getD i []) ++ 13 :: 10 :: v := by simp
    rw [e, splitC_line v _ (no13 i h3), List.filterMap_cons_some (gRow_fin k hk i h3)]
  · have : i = 3 := by omega
    subst this
    have e : List.replicate k 46 ++ evenI 3 ++ v = (List.replicate k 46 ++ 46 :: tails.getD 0 []) ++ 13 :: 10 :: ([] ++ 13 :: 10 :: ([] ++ 13 :: 10 :: ([] ++ 13 :: 10 :: ([32, 46] ++ 13 :: 10 :: v)))) := by
      simp [evenI, markELs, tails]
    rw [e, splitC_line _ _ (no13 0 (by decide)), splitC_line _ [] (by simp), splitC_line _ [] (by simp), splitC_line _ [] (by simp), splitC_line _ [32, 46] (by decide), List.filterMap_cons_some (gRow_fin k hk 0 (by decide)),
      List.filterMap_cons_none gRow_nil, List.filterMap_cons_none gRow_nil, List.filterMap_cons_none gRow_nil, List.filterMap_cons_none gRow_sp]
theorem rows_cat : ∀ cs : List (Nat × Nat), (∀ c ∈ cs, c.1 < 8) → (splitC (catx cs)).filterMap gRow = cs.map fun c => c.1 + 1 := by
  intro cs
  induction cs with
  | nil => intro _; show ([[]] : List (List Nat)).filterMap gRow = []; rw [List.filterMap_cons_none gRow_nil]; rfl
  | cons c cs ih =>
    intro h
    show (splitC (cxL c.1 c.2 ++ catx cs)).filterMap gRow = _
    rw [rows_chunk _ _ (h c List.mem_cons_self), ih fun e he => h e (List.mem_cons_of_mem _ he)]; rfl
section
variable {ds bits : List Nat} {said : List Str}
theorem told_bound : ∀ (l : List Nat) (m : Mails), (∀ p ∈ l, p ≤ 7) → (l.foldl (mailStep ds bits said) m).told.length ≤ m.told.length + 20 * l.length := by
  intro l
  induction l with
  | nil => intro m _; exact Nat.le_refl _
  | cons p l ih =>
    intro m h
    rw [List.foldl_cons]
    refine Nat.le_trans (ih _ fun q hq => h q (List.mem_cons_of_mem _ hq)) ?_
    have := told_len ds bits p (h p List.mem_cons_self)
    show (if bits.getD p 0 = 1 then m.told ++ toldOf ds bits p else m.told).length + _ ≤ _
    rw [List.length_cons]
    split
    · rw [Str.length_append']; omega
    · omega
theorem typed_bound : ∀ (l : List Nat) (m : Mails), (l.foldl (mailStep ds bits said) m).typed.length ≤ m.typed.length + 20 * l.length := by
  intro l
  induction l with
  | nil => intro m; exact Nat.le_refl _
  | cons p l ih =>
    intro m
    rw [List.foldl_cons]
    refine Nat.le_trans (ih _) ?_
    have := laid_len (ds.getD p 0)
    show (if bits.getD p 0 = 1 then m.typed ++ laid (ds.getD p 0) else m.typed).length + _ ≤ _
    rw [List.length_cons]
    split
    · rw [Str.length_append']; omega
    · omega
end
noncomputable def dotsOf (bits : List Nat) : List Nat := (pl7.filter (onB bits)).map fun p => freeOf bits p + 1
theorem free_lt (bits : List Nat) (p : Nat) (hp : p ∈ pl7) : freeOf bits p < 8 := by
  have : p ≤ 6 := by
    have : ∀ p ∈ pl7, p ≤ 6 := by decide
    exact this p hp
  unfold freeOf; omega
/-- all that law asks of the mail -/
theorem mails_all {ds : List Nat} {said : List Str} (hs : ∀ p ∈ pl7, said.any (fun y => y == wordS [p]) = onB (ds.map (· % 2)) p) (hp : procIdx (ds.map (· % 2)) pl7 [] = (pl7.filter (onB (ds.map (· % 2)))).map fun p => (freeOf (ds.map (· % 2)) p, p)) :
    (mailsOf ds said).mail = (mailsOf ds said).told ∧ fixS (mailsOf ds said).typed = (mailsOf ds said).even ∧ (mailsOf ds said).typed.length ≤ 2 ^ 18 ∧ (mailsOf ds said).mail.length ≤ 2 ^ 17 ∧
    (Txt.split (fixS (mailsOf ds said).mail) "\r\n").length ≤ 1000 ∧ (∀ y ∈ Txt.split (fixS (mailsOf ds said).mail) "\r\n", y.length ≤ 1000) ∧ (rowsOf (fixS (mailsOf ds said).mail)).map dotsIn = dotsOf (ds.map (· % 2)) := by
  obtain ⟨h1, h2, h3⟩ := mails_ok hs hp
  have b1 := told_bound (ds := ds) (bits := ds.map (· % 2)) (said := said) pl7 ⟨"", "", "", ""⟩ (by decide)
  have b2 := typed_bound (ds := ds) (bits := ds.map (· % 2)) (said := said) pl7 ⟨"", "", "", ""⟩
  have e1 : (mailsOf ds said).told.length ≤ 140 := b1
  have e2 : (mailsOf ds said).typed.length ≤ 140 := b2
  have e3 : (mailsOf ds said).mail.length ≤ 140 := by rw [h1]; exact e1
  have e4 := fixS_len (mailsOf ds said).mail
  have sp := split_crlf (fixS (mailsOf ds said).mail)
  have sl := splitC_len (fixS (mailsOf ds said).mail).cps.toList
  rw [← sp] at sl
  have e7 : (fixS (mailsOf ds said).mail).cps.toList.length = (fixS (mailsOf ds said).mail).length := by simp [Str.length]
  rw [e7] at sl
  have e5 : (fixS (mailsOf ds said).mail).cps.size = (fixS (mailsOf ds said).mail).length := rfl
  refine ⟨h1, h2, by omega, by omega, ?_, fun y hy => ?_, ?_⟩
  · have := sl.1
    rw [List.length_map] at this; omega
  · have := sl.2 y.cps.toList (List.mem_map_of_mem hy)
    rw [Array.length_toList] at this
    have e6 : y.cps.size = y.length := rfl
    omega
  · rw [rows_dots, h3, rows_cat]
    · unfold dotsOf; rw [List.map_map]; rfl
    · intro c hc
      obtain ⟨p, hp', rfl⟩ := List.mem_map.mp hc
      exact free_lt _ p (List.mem_filter.mp hp').1
end
section
set_option maxRecDepth 20000

noncomputable def bitsFrom (n : Nat) : List Nat := (List.range 7).map fun k => n / 2 ^ k % 2
noncomputable def initL : Wsp := ⟨[], 0, 0, 0⟩
noncomputable def runsL (hk : List Nat) (e : Nat) : List Nat := (hk.map fun h => List.replicate (h - e) 32 ++ [9]).flatten
noncomputable def nearL (hk : List Nat) (gap : Nat) : List Nat := (runsL hk 1 ++ List.replicate gap 32) ++ [120]
noncomputable def farLL (hk : List Nat) (gap : Nat) : List Nat := (runsL hk 0 ++ List.replicate gap 32) ++ [120, 32, 9]
noncomputable def fin0 (n : Nat) : Bool := numOf (bitsFrom n) == n && procIdx (bitsFrom n) pl7 [] == (pl7.filter (onB (bitsFrom n))).map (fun p => (freeOf (bitsFrom n) p, p)) && (hooksOf (dotsOf (bitsFrom n))).all (fun h => decide (h ≤ 64)) && decide ((hooksOf (dotsOf (bitsFrom n))).length ≤ 100) && decide (worthT n ≤ 7)
noncomputable def fin1 (n : Nat) : Bool := (prettyS n == wordS (onOf (bitsFrom n))) && decide ((prettyS n).length ≤ 2 ^ 20)
noncomputable def fin2 (n : Nat) : Bool := (Txt.split (prettyS n) ", ").all PyData.strOk && pl7.all (fun p => (Txt.split (prettyS n) ", ").any (fun y => y == wordS [p]) == onB (bitsFrom n) p)
noncomputable def oddW (w : Nat) : List Nat := (List.range 3).filter fun k => w.testBit k
noncomputable def fin3 (n gap : Nat) : Bool :=
  let hk := hooksOf (dotsOf (bitsFrom n))
  let ways := waysOf (bitsFrom n)
  let rn := wspRun (nearL hk gap) initL
  let rd := wspRun (nearL hk 6) initL
  let rf := wspRun (farLL hk gap) initL
  let E := ts7.map (eachT ways gap)
  let S := dueL ways gap ts7
  witT rn rd == E && witT rn rf == S && oddOf S == oddW (worthT n)
noncomputable def fin4 (w sh : Nat) : Bool := (prettyS (w * 2 ^ sh) == wordS ((oddW w).map (sh + ·))) && decide (highOf ((oddW w).map (sh + ·)) ≤ 100)

/-- the words of small numbers, by their places alone -/
noncomputable def pfOk : List Nat → Nat → Bool
  | [], _ => false
  | i :: r, fl => if fl.testBit i = true then (if fl - 2 ^ i = 0 then true else pfOk r (fl - 2 ^ i)) else pfOk r fl
noncomputable def pfJ : List Nat → Nat → List Nat
  | [], _ => []
  | i :: r, fl => if fl.testBit i = true then (if fl - 2 ^ i = 0 then [i] else i :: pfJ r (fl - 2 ^ i)) else pfJ r fl
theorem pf_idx : ∀ (l : List Nat) (fl : Nat) (acc : List Str), pfOk l fl = true → pfL l fl acc = acc ++ (pfJ l fl).map flagName := by
  intro l
  induction l with
  | nil => intro fl acc h; cases h
  | cons i r ih =>
    intro fl acc h
    unfold pfOk at h
    unfold pfL pfJ
    by_cases hb : fl.testBit i = true
    · rw [if_pos hb] at h ⊢
      rw [if_pos hb]
      by_cases h0 : fl - 2 ^ i = 0
      · rw [if_pos h0, if_pos h0]; rfl
      · rw [if_neg h0] at h ⊢
        rw [if_neg h0, ih _ _ h]; simp
    · rw [if_neg hb] at h ⊢
      rw [if_neg hb]
      exact ih _ _ h
noncomputable def name7 (k : Nat) : Str := flagNames.getD k ""
theorem name_flag : ∀ k < 7, flagName k = name7 k := by decide +kernel
theorem name_word : ∀ k < 7, wordS [k] = name7 k := by decide +kernel
theorem name_ok : ∀ k < 7, PyData.strOk (name7 k) = true ∧ (name7 k).length ≤ 20 ∧ ∀ c ∈ (name7 k).cps.toList, c ≠ 44 := by decide +kernel
theorem name_inj : ∀ k < 7, ∀ j < 7, (name7 k == name7 j) = (k == j) := by decide +kernel
noncomputable def onN (n : Nat) : List Nat := (List.range 7).filter fun k => n / 2 ^ k % 2 == 1
theorem on_fin : ∀ n < 128, (n == 0 || (pfOk (List.range 32) n && pfJ (List.range 32) n == onN n && !(onN n).isEmpty)) = true ∧ onOf (bitsFrom n) = onN n ∧ pl7.all (fun p => (onN n).contains p == onB (bitsFrom n) p) = true := by decide +kernel
theorem onN_lt (n : Nat) : ∀ k ∈ onN n, k < 7 := fun k hk => List.mem_range.mp (List.mem_filter.mp hk).1
theorem wordL_small (ps : List Nat) (h : ∀ k ∈ ps, k < 7) : wordL ps = ps.map name7 := by
  have h1 : (ps.filter fun k => decide (k < 10)) = ps := List.filter_eq_self.mpr fun k hk => by have := h k hk; simp; omega
  have h2 : (ps.filter fun k => decide (10 ≤ k) && decide (k < 32)) = [] := List.filter_eq_nil_iff.mpr fun k hk => by have := h k hk; simp; omega
  have h3 : highOf ps = 0 := by
    unfold highOf
    rw [List.filter_eq_nil_iff.mpr fun k hk => by have := h k hk; simp; omega]; rfl
  unfold wordL
  rw [h1, h2, h3]
  simp [name7]
theorem wordS_small (ps : List Nat) (h : ∀ k ∈ ps, k < 7) (hne : ps ≠ []) : wordS ps = Txt.join ", " (ps.map name7) := by
  unfold wordS
  rw [wordL_small ps h, if_neg (by simpa using hne)]
theorem pretty_small {n : Nat} (hn : n < 128) (h0 : n ≠ 0) : prettyS n = Txt.join ", " ((onN n).map name7) ∧ onN n ≠ [] := by
  have := (on_fin n hn).1
  simp only [Bool.or_eq_true, beq_iff_eq, h0, false_or, Bool.and_eq_true, Bool.not_eq_true', List.isEmpty_eq_false_iff] at this
  obtain ⟨⟨h1, h2⟩, h3⟩ := this
  refine ⟨?_, h3⟩
  unfold prettyS
  rw [pf_idx _ _ _ h1, h2, List.nil_append]
  congr 1
  exact List.map_congr_left fun k hk => name_flag k (onN_lt n k hk)
theorem splitD_none (u : List Nat) (h : ∀ c ∈ u, c ≠ 44) : splitD u = [u] := splitG_none u h
theorem splitD_line (v u : List Nat) (h : ∀ c ∈ u, c ≠ 44) : splitD (u ++ 44 :: 32 :: v) = u :: splitD v := splitG_line v u h
theorem join_comma : ∀ (ws : List Str) (w : Str), (∀ y ∈ w :: ws, ∀ c ∈ y.cps.toList, c ≠ 44) → splitD (Txt.join ", " (w :: ws)).cps.toList = (w :: ws).map (·.cps.toList) := by
  intro ws
  induction ws with
  | nil =>
    intro w h
    have e : Txt.join (Str.ofString ", ") [w] = w := by
      show Builtin.Str.glued (Str.ofString ", ") [w] = _
      rw [StrLaws.glued_eq_join]; rfl
    rw [e]
    exact splitD_none _ (h w List.mem_cons_self)
  | cons x ws ih =>
    intro w h
    have e : (Txt.join (Str.ofString ", ") (w :: x :: ws)).cps.toList = w.cps.toList ++ 44 :: 32 :: (Txt.join (Str.ofString ", ") (x :: ws)).cps.toList := by
      show (Builtin.Str.glued (Str.ofString ", ") (w :: x :: ws)).cps.toList = w.cps.toList ++ 44 :: 32 :: (Builtin.Str.glued (Str.ofString ", ") (x :: ws)).cps.toList
      rw [StrLaws.glued_eq_join, StrLaws.glued_eq_join]
      show (w ++ Str.ofString ", " ++ Str.join (Str.ofString ", ") (x :: ws)).cps.toList = _
      rw [Str.toList_append, Str.toList_append, show (Str.ofString ", ").cps.toList = [44, 32] from rfl]
      simp
    rw [e, splitD_line _ _ (h w List.mem_cons_self), ih x fun y hy => h y (List.mem_cons_of_mem _ hy)]
    rfl
theorem split_join {ws : List Str} (hne : ws ≠ []) (h : ∀ y ∈ ws, ∀ c ∈ y.cps.toList, c ≠ 44) : Txt.split (Txt.join ", " ws) ", " = ws := by
  have h1 := split_comma (Txt.join ", " ws)
  match ws, hne with
  | w :: ws, _ =>
    rw [join_comma ws w h] at h1
    exact List.map_inj_right (fun a b e => Str.ext' e) |>.mp h1
theorem fin_zero : fin1 0 = true ∧ fin2 0 = true := by decide +kernel
theorem fin0_ok : ∀ n < 128, fin0 n = true := by decide +kernel
theorem fin1_ok : ∀ n < 128, fin1 n = true := fun n hn => by
  by_cases h0 : n = 0
  · subst h0; exact fin_zero.1
  obtain ⟨h1, h2⟩ := pretty_small hn h0
  have h3 := (on_fin n hn).2.1
  unfold fin1
  rw [Bool.and_eq_true, beq_iff_eq, decide_eq_true_eq, h3, wordS_small _ (onN_lt n) h2, h1]
  refine ⟨rfl, ?_⟩
  show (Builtin.Str.glued (Str.ofString ", ") _).length ≤ _
  rw [StrLaws.glued_eq_join]
  refine Nat.le_trans (StrLaws.join_length_le _ _) ?_
  have hl : ((onN n).map name7).length ≤ 7 := by rw [List.length_map]; exact Nat.le_trans (List.length_filter_le _ _) (by decide)
  have hs := sum_le_mul ((onN n).map name7) 20 fun x hx => by
    obtain ⟨k, hk, rfl⟩ := List.mem_map.mp hx
    exact (name_ok k (onN_lt n k hk)).2.1
  rw [show (Str.ofString ", ").length = 2 from rfl]
  omega
theorem fin2_ok : ∀ n < 128, fin2 n = true := fun n hn => by
  by_cases h0 : n = 0
  · subst h0; exact fin_zero.2
  obtain ⟨h1, h2⟩ := pretty_small hn h0
  have h3 := (on_fin n hn).2.2
  unfold fin2
  rw [h1, split_join (by simpa using h2) (fun y hy => by
    obtain ⟨k, hk, rfl⟩ := List.mem_map.mp hy
    exact (name_ok k (onN_lt n k hk)).2.2)]
  rw [Bool.and_eq_true, List.all_eq_true, List.all_eq_true]
  rw [List.all_eq_true] at h3
  refine ⟨fun y hy => ?_, fun p hp => ?_⟩
  · obtain ⟨k, hk, rfl⟩ := List.mem_map.mp hy
    exact (name_ok k (onN_lt n k hk)).1
  · have hp7 : p < 7 := by
      have : ∀ p ∈ pl7, p < 7 := by decide
      exact this p hp
    have h4 := h3 p hp
    rw [beq_iff_eq] at h4 ⊢
    rw [← h4, name_word p hp7, List.any_map, Bool.eq_iff_iff, List.any_eq_true, List.contains_iff_mem]
    constructor
    · rintro ⟨k, hk, e⟩
      have e' : (name7 k == name7 p) = true := e
      rw [name_inj k (onN_lt n k hk) p hp7, beq_iff_eq] at e'
      rw [← e']; exact hk
    · intro hk
      exact ⟨p, hk, by show (name7 p == name7 p) = true; rw [beq_iff_eq]⟩
theorem fin3_ok : ∀ n < 128, ∀ g < 3, fin3 n g = true := by decide +kernel
/-- the words of any number: the places of its low signs, and what is left -/
noncomputable def pfX : List Nat → Nat → List Nat × Option Nat
  | [], fl => ([], some fl)
  | i :: r, fl => if fl.testBit i = true then (if fl - 2 ^ i = 0 then ([i], none) else (i :: (pfX r (fl - 2 ^ i)).1, (pfX r (fl - 2 ^ i)).2)) else pfX r fl
noncomputable def tailX : Option Nat → List Str
  | none => []
  | some r => [hexS r]
theorem pf_any : ∀ (l : List Nat) (fl : Nat) (acc : List Str), pfL l fl acc = acc ++ ((pfX l fl).1.map flagName ++ tailX (pfX l fl).2) := by
  intro l
  induction l with
  | nil => intro fl acc; rfl
  | cons i r ih =>
    intro fl acc
    unfold pfL pfX
    by_cases hb : fl.testBit i = true
    · rw [if_pos hb, if_pos hb]
      by_cases h0 : fl - 2 ^ i = 0
      · rw [if_pos h0, if_pos h0]; simp [tailX]
      · rw [if_neg h0, if_neg h0, ih]; simp
    · rw [if_neg hb, if_neg hb]
      exact ih _ _
noncomputable def wname (k : Nat) : Str := if k < 10 then flagNames.getD k "" else hexw k
theorem wname_flag : ∀ k < 32, flagName k = wname k := by decide +kernel
theorem high_hex : ∀ h < 8, h = 0 ∨ hexS (h * 2 ^ 32) = highS h := by decide +kernel
noncomputable def finX (w s : Nat) : Bool :=
  let ps := (oddW w).map (s + ·)
  let x := pfX (List.range 32) (w * 2 ^ s)
  x.1 == ps.filter (fun k => decide (k < 10)) ++ ps.filter (fun k => decide (10 ≤ k) && decide (k < 32)) && decide (highOf ps < 8) && (if highOf ps = 0 then x.2 == none && !x.1.isEmpty else x.2 == some (highOf ps * 2 ^ 32))
theorem finX_ok : ∀ w < 8, ∀ s < 33, (w == 0 || finX w s) = true := by decide +kernel
theorem fin4_zero : prettyS 0 = wordS [] ∧ highOf [] ≤ 100 ∧ oddW 0 = [] := by decide +kernel
theorem fin4_ok : ∀ w < 8, ∀ s < 33, fin4 w s = true := fun w hw s hs => by
  unfold fin4
  rw [Bool.and_eq_true, beq_iff_eq, decide_eq_true_eq]
  by_cases h0 : w = 0
  · subst h0
    rw [Nat.zero_mul, fin4_zero.2.2]
    exact ⟨fin4_zero.1, fin4_zero.2.1⟩
  have hf := finX_ok w hw s hs
  have hw0 : (w == 0) = false := by simpa using h0
  rw [hw0, Bool.false_or] at hf
  unfold finX at hf
  generalize hps : (oddW w).map (s + ·) = ps at hf
  simp only [Bool.and_eq_true, beq_iff_eq, decide_eq_true_eq] at hf
  obtain ⟨⟨hx, hh⟩, ht⟩ := hf
  refine ⟨?_, by omega⟩
  have names : (pfX (List.range 32) (w * 2 ^ s)).1.map flagName = ((ps.filter fun k => decide (k < 10)).map fun k => flagNames.getD k "") ++ ((ps.filter fun k => decide (10 ≤ k) && decide (k < 32)).map hexw) := by
    rw [hx, List.map_append]
    congr 1
    · refine List.map_congr_left fun k hk => ?_
      have h10 : k < 10 := by simpa using (List.mem_filter.mp hk).2
      rw [wname_flag k (by omega)]
      unfold wname; rw [if_pos h10]
    · refine List.map_congr_left fun k hk => ?_
      have h10 : 10 ≤ k ∧ k < 32 := by simpa using (List.mem_filter.mp hk).2
      rw [wname_flag k h10.2]
      unfold wname; rw [if_neg (by omega)]
  have all : (pfX (List.range 32) (w * 2 ^ s)).1.map flagName ++ tailX (pfX (List.range 32) (w * 2 ^ s)).2 = wordL ps ∧ wordL ps ≠ [] := by
    rw [names]
    unfold wordL
    by_cases hz : highOf ps = 0
    · rw [if_pos hz] at ht ⊢
      simp only [Bool.and_eq_true, beq_iff_eq, Bool.not_eq_true', List.isEmpty_eq_false_iff] at ht
      rw [ht.1]
      refine ⟨rfl, ?_⟩
      rw [List.append_nil, ← names]
      simpa using ht.2
    · rw [if_neg hz] at ht ⊢
      rw [beq_iff_eq] at ht
      rw [ht]
      exact ⟨by rw [← (high_hex _ hh).resolve_left hz]; rfl, by simp⟩
  unfold prettyS wordS
  rw [pf_any, List.nil_append, all.1, if_neg (by simpa using all.2)]
theorem wit_flip (r r' : Wsp) : witT r' r = (witT r r').map flip3 := by
  unfold witT witN
  rw [List.map_map, Nat.max_comm (longOf r') (longOf r)]
  have e : (fun t => indentOf r' t != indentOf r t) = fun t => indentOf r t != indentOf r' t := by
    funext t
    rw [Bool.eq_iff_iff, bne_iff_ne, bne_iff_ne]
    exact ⟨fun h => h.symm, fun h => h.symm⟩
  rw [e]; rfl
end
section
set_option maxRecDepth 20000

theorem mul_lead (h : Nat) : (Txt.mul (Str.ofString " ") ((h : Int) - 1)).cps.toList = List.replicate (h - 1) 32 := by
  cases h with
  | zero => rfl
  | succ h =>
    rw [show (((h + 1 : Nat) : Int) - 1) = (h : Int) by omega]
    exact mulC 32 h
theorem runs1 (hk : List Nat) : (Txt.join "" (leadL hk)).cps.toList = runsL hk 1 := by
  rw [join_flat]
  unfold leadL runsL
  rw [List.map_map]
  congr 1
  refine List.map_congr_left fun h _ => ?_
  show (Txt.mul (Str.ofString " ") ((h : Int) - 1) ++ Str.ofString "\t").cps.toList = _
  rw [Str.toList_append, mul_lead]; rfl
theorem runs0 (hk : List Nat) : (Txt.join "" (farL hk)).cps.toList = runsL hk 0 := by
  rw [join_flat]
  unfold farL runsL
  rw [List.map_map]
  congr 1
  refine List.map_congr_left fun h _ => ?_
  show (Txt.mul (Str.ofString " ") (h : Int) ++ Str.ofString "\t").cps.toList = _
  rw [Str.toList_append, show (Txt.mul (Str.ofString " ") (h : Int)).cps.toList = List.replicate h 32 from mulC 32 h]; rfl
theorem near_list (hk : List Nat) (gap : Nat) : wspOf (nearS hk gap) = wspRun (nearL hk gap) initL := by
  have : (nearS hk gap).cps.toList = nearL hk gap := by
    unfold nearS nearL
    rw [Str.toList_append, Str.toList_append, runs1, show (Txt.mul (Str.ofString " ") (gap : Int)).cps.toList = List.replicate gap 32 from mulC 32 gap]; rfl
  show wspRun (nearS hk gap).cps.toList _ = _
  rw [this]; rfl
theorem deep_list (hk : List Nat) : wspOf (deepS hk) = wspRun (nearL hk 6) initL := by
  have : (deepS hk).cps.toList = nearL hk 6 := by
    unfold deepS nearL
    rw [Str.toList_append, Str.toList_append, runs1, show (Txt.mul (Str.ofString " ") 6).cps.toList = List.replicate 6 32 from mulC 32 6]; rfl
  show wspRun (deepS hk).cps.toList _ = _
  rw [this]; rfl
theorem far_list (hk : List Nat) (gap : Nat) : wspOf (farS hk gap) = wspRun (farLL hk gap) initL := by
  have : (farS hk gap).cps.toList = farLL hk gap := by
    unfold farS farLL
    rw [Str.toList_append, Str.toList_append, runs0, show (Txt.mul (Str.ofString " ") (gap : Int)).cps.toList = List.replicate gap 32 from mulC 32 gap]; rfl
  show wspRun (farS hk gap).cps.toList _ = _
  rw [this]; rfl

set_option synthInstance.maxHeartbeats 2000000 in
set_option synthInstance.maxSize 100000 in
theorem bits_fin : ∀ a < 2, ∀ b < 2, ∀ c < 2, ∀ d < 2, ∀ e < 2, ∀ f < 2, ∀ g < 2, (decide (numOf [a, b, c, d, e, f, g] < 128) && (bitsFrom (numOf [a, b, c, d, e, f, g]) == [a, b, c, d, e, f, g])) = true := by decide +kernel
theorem bits_from {bits : List Nat} (h7 : bits.length = 7) (hb : ∀ b ∈ bits, b < 2) : numOf bits < 128 ∧ bitsFrom (numOf bits) = bits := by
  match bits, h7 with
  | [a, b, c, d, e, f, g], _ =>
    have := bits_fin a (hb a (by simp)) b (hb b (by simp)) c (hb c (by simp)) d (hb d (by simp)) e (hb e (by simp)) f (hb f (by simp)) g (hb g (by simp))
    simpa using this

/-- the plain law: all that law's body asks holds for any seven numbers -/
theorem law_ok (ds : List Nat) (h7 : ds.length = 7) : ∃ n m hk ways gap sh S, LawOk ds n m hk ways gap sh S := by
  have hb7 : (bitsOf ds).length = 7 := by unfold bitsOf; rw [List.length_map]; exact h7
  obtain ⟨hn, hbits⟩ := bits_from (bits := bitsOf ds) hb7 fun b hb => by
    obtain ⟨d, _, rfl⟩ := List.mem_map.mp hb; exact Nat.mod_lt _ (by decide)
  generalize hN : numOf (bitsOf ds) = n at hn hbits
  have f0 := fin0_ok n hn
  have f1 := fin1_ok n hn
  have f2 := fin2_ok n hn
  have f3 := fin3_ok n hn (ds.sum % 3) (Nat.mod_lt _ (by decide))
  unfold fin0 at f0
  unfold fin1 at f1
  unfold fin2 at f2
  unfold fin3 at f3
  rw [hbits] at f0 f1 f2 f3
  simp only [Bool.and_eq_true, beq_iff_eq, decide_eq_true_eq, List.all_eq_true] at f0 f1 f2 f3
  obtain ⟨⟨⟨⟨_, hproc⟩, hhb⟩, hhc⟩, hw⟩ := f0
  obtain ⟨hsaid, hslen⟩ := f1
  obtain ⟨hsok, hany⟩ := f2
  obtain ⟨⟨e1, e3⟩, ho⟩ := f3
  have f4 := fin4_ok (worthT n) (by omega) (ds.sum / 3 % 33) (Nat.mod_lt _ (by decide))
  unfold fin4 at f4
  simp only [Bool.and_eq_true, beq_iff_eq, decide_eq_true_eq] at f4
  have hm := mails_all (ds := ds) (said := Txt.split (prettyS n) ", ") hany hproc
  have oddle : ∀ k ∈ oddW (worthT n), k < 3 := fun k hk => List.mem_range.mp (List.mem_filter.mp hk).1
  refine ⟨n, mailsOf ds (Txt.split (prettyS n) ", "), hooksOf (dotsOf (bitsOf ds)), waysOf (bitsOf ds), ds.sum % 3, ds.sum / 3 % 33, dueL (waysOf (bitsOf ds)) (ds.sum % 3) ts7, ?_⟩
  exact {
    n_eq := hN, n_lt := hn, said := hsaid, slen := hslen, sok := hsok, m_eq := rfl, mt := hm.1, ft := hm.2.1, tl := hm.2.2.1, ml := hm.2.2.2.1, r1 := hm.2.2.2.2.1, r2 := hm.2.2.2.2.2.1,
    hk_eq := congrArg hooksOf hm.2.2.2.2.2.2, hb := hhb, hc := hhc, ways_eq := rfl, gap_eq := rfl, sh_eq := rfl,
    e1 := by rw [near_list, deep_list]; exact e1
    e2 := by rw [near_list, deep_list, wit_flip, e1]
    e3 := by rw [near_list, far_list]; exact e3
    e4 := by rw [near_list, far_list, wit_flip, e3]
    due := rfl, worth := hw
    od1 := by rw [ho]; exact oddle
    od2 := by rw [ho]; exact Nat.le_trans (List.length_filter_le _ _) (by decide)
    od3 := by rw [ho]; exact f4.2
    fin := by rw [ho]; exact f4.1 }
end
section
set_option maxRecDepth 20000

noncomputable def fdOf (K : Frag) (a : Addr) : FuncData := match K.lookup a with
  | some ⟨_, _, .func fd, _⟩ => fd
  | _ => default
noncomputable def isFd (K : Frag) (a : Addr) : Bool := match K.lookup a with
  | some ⟨_, _, .func _, _⟩ => true
  | _ => false
theorem fd_at {K : Frag} {h : Heap} {a : Addr} (X : K.In h) (e : isFd K a = true) : ∃ o, h.get? a = some o ∧ o.data = .func (fdOf K a) := by
  unfold isFd at e
  unfold fdOf
  split at e
  · rename_i c d fd sl q
    exact ⟨_, X _ _ q, rfl⟩
  · cases e
structure FnK (K : Frag) (a : Addr) (pn : List String) (scope : Scope) (body : List Stmt) : Prop where
  is : isFd K a = true
  bodyE : (fdOf K a).body = .stmts body
  scopeE : (fdOf K a).scope = scope
  glob : (fdOf K a).globals = mainGlobals
  blt : (fdOf K a).builtins = builtinsNs
  clo : (fdOf K a).closure = []
  code : codeIn K (fdOf K a).code (fdOf K a).qualname = true
  bind : ∀ vs, vs.length = pn.length → bindArgs (fdOf K a) ⟨vs, []⟩ = pure ((pn.map Str.ofString).zip vs)
  kind : scope.kind = .function
  co : scope.isCoroutine = false
  gen : scope.isGenerator = false
  par : pn.all (fun x => kAll scope.names (Str.ofString x) .local || kAll scope.names (Str.ofString x) .cell) = true
theorem DefAt.ofK {W : Wd} {K : Frag} {a : Addr} {pn : List String} {scope : Scope} {body : List Stmt} (X : K.In W.h0) (f : FnK K a pn scope body) : DefAt W a pn scope body := by
  obtain ⟨o, h1, h2⟩ := fd_at X f.is
  exact ⟨⟨o, fdOf K a, h1, h2, f.bodyE, f.scopeE, f.glob, f.blt, f.clo, codeRec_of X f.code, f.bind⟩, f.kind, f.co, f.gen, f.par⟩
theorem bind1 {fd : FuncData} {x : String} (h : ∀ v, bindArgs fd ⟨[v], []⟩ = pure [(Str.ofString x, v)]) : ∀ vs : List Value, vs.length = [x].length → bindArgs fd ⟨vs, []⟩ = pure (([x].map Str.ofString).zip vs) := fun vs hl => by
  match vs, hl with
  | [v], _ => exact h v
theorem bind2 {fd : FuncData} {x y : String} (h : ∀ v u, bindArgs fd ⟨[v, u], []⟩ = pure [(Str.ofString x, v), (Str.ofString y, u)]) : ∀ vs : List Value, vs.length = [x, y].length → bindArgs fd ⟨vs, []⟩ = pure (([x, y].map Str.ofString).zip vs) := fun vs hl => by
  match vs, hl with
  | [v, u], _ => exact h v u

noncomputable def glOf (mg mb : Str → Option Value) (x : Str) : Option Value := match mg x with
  | some v => some v
  | none => mb x
theorem glOf_ok {mg mb : Str → Option Value} {x : Str} {v : Value} (h : glOf mg mb x = some v) : mg x = some v ∨ (mg x = none ∧ mb x = some v) := by
  unfold glOf at h
  split at h
  · rename_i u e; exact .inl (e.trans h)
  · rename_i e; exact .inr ⟨e, h⟩
noncomputable def mkW (prog : Program) (w : World) (h : Heap) (mg mb : Str → Option Value) (ns : h.Ns mainGlobals mg) (nb : h.Ns builtinsNs mb) (nl : h.NoLimit) : Wd := ⟨prog, w, h, glOf mg mb, mg, mb, ns, nb, fun _ _ h => glOf_ok h, nl⟩
section
variable {W : Wd} {K : Frag}
theorem gl_glob (X : K.In W.h0) (hgl : W.gl = glOf W.mg W.mb) {x : Str} {v : Value} (e : nsIn K mainGlobals x = some (some v)) : W.gl x = some v := by
  rw [hgl]; unfold glOf; rw [mg_of X W.ns e]
theorem gl_blt (X : K.In W.h0) (hgl : W.gl = glOf W.mg W.mb) (hb : ∀ x : Str, x ≠ "__name__" → W.mb x = bootBuiltins x) {x : Str} {v : Value} (e : nsIn K mainGlobals x = some none) (hx : x ≠ "__name__") (h : bootBuiltins x = some v) : W.gl x = some v := by
  rw [hgl]; unfold glOf; rw [mg_none_of X W.ns e]; exact (hb x hx).trans h
theorem GDef.ofK (X : K.In W.h0) (hgl : W.gl = glOf W.mg W.mb) {x : String} {k : Nat} {pn : List String} {a : Addr} (e : nsIn K mainGlobals (Str.ofString x) = some (some (.ref a))) (f : FnK K a pn (fscope k tops) (fbody k tops)) (hk : keepIn K (.ref a) = true) : GDef W x k pn :=
  ⟨a, gl_glob X hgl e, DefAt.ofK X f, KeepOk.frag hk X⟩
end
end
section
set_option maxRecDepth 20000

theorem Def.code {W : Wd} {d : Nat} {f : Addr} {pn : List String} {scope : Scope} {body : List Stmt} (hd : DefAt W f pn scope body) {ps : List PV} {σ : Vars} {β β' : Bk} {p : PV} (hlen : pn.length = ps.length) (hnd : (pn.map Str.ofString).Nodup)
    (hfv : FV scope.names (pn.zip ps) σ) (x : Ex W d σ β body (.ret p) β') {A : Around} {M : List Addr} {ba : Option Addr} {s : Shared} {vs : List Value} {R : Result → Shared → Prop} (c : Co W (d + 1) A M ba β s) (hv : PRs (frz s.heap M) ba vs ps)
    (q : ∀ v h' tk, Kp ba s.heap h' → PR (frz h' M) ba v p → R (.ok (.ret v)) { s with heap := h', toks := tk }) : codeAny W.md A (.call (.ref f) ⟨vs, []⟩) R s := by
  obtain ⟨o, fd, ho, hdat, hbody, rfl, hg, hb, hclo, hcd, hbind⟩ := hd.ex
  have hl : vs.length = pn.length := by rw [hv.length, hlen]
  have nodup : (((pn.map Str.ofString).zip vs).map (·.1)) = pn.map Str.ofString := List.map_fst_zip (by rw [List.length_map, hl]; exact Nat.le_refl _)
  have kinds : ∀ b ∈ (pn.map Str.ofString).zip vs, fd.scope.names.lookup b.1 = some .local ∨ (fd.scope.names.lookup b.1 = some .cell ∧ ((cellsFrom (s.heap.objs.size + 1) fd.scope.names []).lookup b.1).isSome = true) := fun b hb' => by
    have hm : b.1 ∈ pn.map Str.ofString := nodup ▸ List.mem_map_of_mem hb'
    obtain ⟨x, hx, e⟩ := List.mem_map.mp hm
    have := List.all_eq_true.mp hd.par x hx
    rcases Bool.or_eq_true_iff.mp this with k | k
    · exact .inl (e ▸ kAll_lookup k)
    · exact .inr ⟨e ▸ kAll_lookup k, cellsFrom_some _ _ _ (.inl (e ▸ kAll_lookup k))⟩
  refine codeAny_call_cells (by have := c.room; omega) (c.base _ _ ho).1 hdat (W.nolim.keeps fun b o e => (c.base b o e).1) (hcd.keeps fun b o e => (c.base b o e).1) hbody (hbind vs hl) hclo kinds (fun s₁ y => ?_) hd.co hd.gen hd.kind
  obtain ⟨M', h₁, tk, rfl, t⟩ := enter c hv hlen hnd hfv hd.kind hg hb y
  refine x.run _ _ [] M' ba _ _ M _ _ t fun fl O' M2 h2 tk2 t2 r2 => ?_
  cases r2 with
  | @ret v _ hp =>
    exact q v h2 tk2 (fun b o e n => t2.keep b o (by rw [if_neg n]; exact e)) (hp.mono (frz_sub t2.nm))
theorem ints_vrs {f : Fz} : ∀ {vs : List Value} {ns : List Int}, IntsAre vs ns → VRs f vs (ns.map .int)
  | _, _, .nil => .nil
  | _, _, .cons _ _ h => .cons (.int _ _) (ints_vrs h)

noncomputable def patK (K : Frag) (P C : Addr) (code : Array Nat) : Bool := match K.lookup P, K.lookup C with
  | some ⟨.type n, none, .fields fs, _⟩, some ⟨_, _, .seq items _, _⟩ => n == "re.Pattern" && (match fs.getD 5 .none with | .ref c => c == C | _ => false) && ((items.map Builtin.Re.reRawOf).map (·.toNat) == code) && (Builtin.Re.reRawNat (fs.getD 2 .none) == 0) && (Builtin.Re.reRawNat (fs.getD 6 .none) == 0)
  | _, _ => false
theorem PatAt.ofK {K : Frag} {h : Heap} (X : K.In h) {P C : Addr} {code : Array Nat} (e : patK K P C code = true) : PatAt h P code := by
  unfold patK at e
  split at e
  · rename_i n fs sl c d items m sl2 q1 q2
    simp only [Bool.and_eq_true, beq_iff_eq] at e
    obtain ⟨⟨⟨⟨hn, h5⟩, hc⟩, h2⟩, h6⟩ := e
    refine ⟨_, fs, C, _, items, m, X _ _ q1, by rw [hn], rfl, rfl, ?_, X _ _ q2, rfl, hc, h2, h6⟩
    split at h5
    · rename_i c' hc'
      rw [hc']
      rw [beq_iff_eq] at h5; rw [h5]
    · cases h5
  · cases e
noncomputable def tabK (K : Frag) (a : Addr) (D : List (PyData × PyData)) : Bool := match K.lookup a with
  | some o => (match o.cls, o.dict, o.data with
    | .type n, none, .dict es _ => (n == "dict") && (o.slots.size == 0) && entriesAreInt es.toList D && keysApartInt D && (a != sysModules)
    | _, _, _ => false)
  | none => false
theorem tab_ofK {W : Wd} {K : Frag} (X : K.In W.h0) {name : Str} {a : Addr} {D : List (PyData × PyData)} (e : nsIn K mainGlobals name = some (some (.ref a))) (t : tabK K a D = true) : IntTab W.prog W.w W.h0 a D := by
  have hm := mg_of X W.ns e
  have hns : W.h0.nsMap mainGlobals name = some (.ref a) := by rw [← W.ns.eq_nsMap]; exact hm
  have ok : W.h0.tabIntOk name D = true := by
    unfold Heap.tabIntOk
    unfold tabK at t
    rw [hns]
    dsimp only
    split at t
    · rename_i o q
      rw [X _ _ q]
      exact t
    · cases t
  obtain ⟨a', h1, h2⟩ := tabInt_of_ok (prog := W.prog) (w := W.w) ok
  rw [hns] at h1
  cases h1
  exact h2
noncomputable def strTok (v : Option (Option Value)) : Tok := match v with
  | some (some (.str _ t)) => t
  | _ => 0
noncomputable def clsTok (v : Option CFound) : Tok := match v with
  | some (.val (.str _ t)) => t
  | _ => 0
end
section
set_option maxRecDepth 100000
theorem k_pretty (p : Params) : FnK (hd.heap_39 p) 112 ["flags"] (fscope 6 tops) (fbody 6 tops) := ⟨by kernel_rfl, by kernel_rfl, by kernel_rfl, by kernel_rfl, by kernel_rfl, by kernel_rfl, by kernel_rfl, bind1 fun v => by kernel_rfl, by rfl, by rfl, by rfl, by decide +kernel⟩
theorem k_quote (p : Params) : FnK (hd.heap_39 p) 129 ["data"] (fscope 11 tops) (fbody 11 tops) := ⟨by kernel_rfl, by kernel_rfl, by kernel_rfl, by kernel_rfl, by kernel_rfl, by kernel_rfl, by kernel_rfl, bind1 fun v => by kernel_rfl, by rfl, by rfl, by rfl, by decide +kernel⟩
theorem k_fix (p : Params) : FnK (hd.heap_39 p) 136 ["data"] (fscope 12 tops) (fbody 12 tops) := ⟨by kernel_rfl, by kernel_rfl, by kernel_rfl, by kernel_rfl, by kernel_rfl, by kernel_rfl, by kernel_rfl, bind1 fun v => by kernel_rfl, by rfl, by rfl, by rfl, by decide +kernel⟩
theorem k_words (p : Params) : FnK (hd.heap_39 p) 141 ["places"] (fscope 14 tops) (fbody 14 tops) := ⟨by kernel_rfl, by kernel_rfl, by kernel_rfl, by kernel_rfl, by kernel_rfl, by kernel_rfl, by kernel_rfl, bind1 fun v => by kernel_rfl, by rfl, by rfl, by rfl, by decide +kernel⟩
theorem k_laid (p : Params) : FnK (hd.heap_39 p) 148 ["d"] (fscope 15 tops) (fbody 15 tops) := ⟨by kernel_rfl, by kernel_rfl, by kernel_rfl, by kernel_rfl, by kernel_rfl, by kernel_rfl, by kernel_rfl, bind1 fun v => by kernel_rfl, by rfl, by rfl, by rfl, by decide +kernel⟩
theorem k_even (p : Params) : FnK (hd.heap_39 p) 155 ["d"] (fscope 16 tops) (fbody 16 tops) := ⟨by kernel_rfl, by kernel_rfl, by kernel_rfl, by kernel_rfl, by kernel_rfl, by kernel_rfl, by kernel_rfl, bind1 fun v => by kernel_rfl, by rfl, by rfl, by rfl, by decide +kernel⟩
theorem k_mails (p : Params) : FnK (hd.heap_39 p) 160 ["drawn", "said"] (fscope 17 tops) (fbody 17 tops) := ⟨by kernel_rfl, by kernel_rfl, by kernel_rfl, by kernel_rfl, by kernel_rfl, by kernel_rfl, by kernel_rfl, bind2 fun v u => by kernel_rfl, by rfl, by rfl, by rfl, by decide +kernel⟩
theorem k_hooks (p : Params) : FnK (hd.heap_39 p) 165 ["mail"] (fscope 18 tops) (fbody 18 tops) := ⟨by kernel_rfl, by kernel_rfl, by kernel_rfl, by kernel_rfl, by kernel_rfl, by kernel_rfl, by kernel_rfl, bind1 fun v => by kernel_rfl, by rfl, by rfl, by rfl, by decide +kernel⟩
theorem k_worth (p : Params) : FnK (hd.heap_39 p) 170 ["number", "book"] (fscope 19 tops) (fbody 19 tops) := ⟨by kernel_rfl, by kernel_rfl, by kernel_rfl, by kernel_rfl, by kernel_rfl, by kernel_rfl, by kernel_rfl, bind2 fun v u => by kernel_rfl, by rfl, by rfl, by rfl, by decide +kernel⟩
theorem k_law (p : Params) : FnK (hd.heap_39 p) 175 ["script"] (fscope 20 tops) (fbody 20 tops) := ⟨by kernel_rfl, by kernel_rfl, by kernel_rfl, by kernel_rfl, by kernel_rfl, by kernel_rfl, by kernel_rfl, bind1 fun v => by kernel_rfl, by rfl, by rfl, by rfl, by decide +kernel⟩
theorem k_init (p : Params) : FnK (hd.heap_39 p) 55 ["self", "ws"] (fscope 1 ctops) (fbody 1 ctops) := ⟨by kernel_rfl, by kernel_rfl, by kernel_rfl, by kernel_rfl, by kernel_rfl, by kernel_rfl, by kernel_rfl, bind2 fun v u => by kernel_rfl, by rfl, by rfl, by rfl, by decide +kernel⟩
theorem k_long (p : Params) : FnK (hd.heap_39 p) 62 ["self"] (fscope 2 ctops) (fbody 2 ctops) := ⟨by kernel_rfl, by kernel_rfl, by kernel_rfl, by kernel_rfl, by kernel_rfl, by kernel_rfl, by kernel_rfl, bind1 fun v => by kernel_rfl, by rfl, by rfl, by rfl, by decide +kernel⟩
theorem k_ind (p : Params) : FnK (hd.heap_39 p) 69 ["self", "tabsize"] (fscope 3 ctops) (fbody 3 ctops) := ⟨by kernel_rfl, by kernel_rfl, by kernel_rfl, by kernel_rfl, by kernel_rfl, by kernel_rfl, by kernel_rfl, bind2 fun v u => by kernel_rfl, by rfl, by rfl, by rfl, by decide +kernel⟩
theorem k_wit (p : Params) : FnK (hd.heap_39 p) 83 ["self", "other"] (fscope 5 ctops) (fbody 5 ctops) := ⟨by kernel_rfl, by kernel_rfl, by kernel_rfl, by kernel_rfl, by kernel_rfl, by kernel_rfl, by kernel_rfl, bind2 fun v u => by kernel_rfl, by rfl, by rfl, by rfl, by decide +kernel⟩
section
variable {W : Wd} {p : Params}
theorem g_pretty (X : (hd.heap_39 p).In W.h0) (hgl : W.gl = glOf W.mg W.mb) : GDef W "pretty_flags" 6 ["flags"] := GDef.ofK X hgl (a := 112) (by kernel_rfl) (k_pretty p) (by kernel_rfl)
theorem g_quote (X : (hd.heap_39 p).In W.h0) (hgl : W.gl = glOf W.mg W.mb) : GDef W "quotedata" 11 ["data"] := GDef.ofK X hgl (a := 129) (by kernel_rfl) (k_quote p) (by kernel_rfl)
theorem g_fix (X : (hd.heap_39 p).In W.h0) (hgl : W.gl = glOf W.mg W.mb) : GDef W "_fix_eols" 12 ["data"] := GDef.ofK X hgl (a := 136) (by kernel_rfl) (k_fix p) (by kernel_rfl)
theorem g_words (X : (hd.heap_39 p).In W.h0) (hgl : W.gl = glOf W.mg W.mb) : GDef W "_law_words" 14 ["places"] := GDef.ofK X hgl (a := 141) (by kernel_rfl) (k_words p) (by kernel_rfl)
theorem g_laid (X : (hd.heap_39 p).In W.h0) (hgl : W.gl = glOf W.mg W.mb) : GDef W "_law_laid" 15 ["d"] := GDef.ofK X hgl (a := 148) (by kernel_rfl) (k_laid p) (by kernel_rfl)
theorem g_even (X : (hd.heap_39 p).In W.h0) (hgl : W.gl = glOf W.mg W.mb) : GDef W "_law_even" 16 ["d"] := GDef.ofK X hgl (a := 155) (by kernel_rfl) (k_even p) (by kernel_rfl)
theorem g_mails (X : (hd.heap_39 p).In W.h0) (hgl : W.gl = glOf W.mg W.mb) : GDef W "_law_mails" 17 ["drawn", "said"] := GDef.ofK X hgl (a := 160) (by kernel_rfl) (k_mails p) (by kernel_rfl)
theorem g_hooks (X : (hd.heap_39 p).In W.h0) (hgl : W.gl = glOf W.mg W.mb) : GDef W "_law_hooks" 18 ["mail"] := GDef.ofK X hgl (a := 165) (by kernel_rfl) (k_hooks p) (by kernel_rfl)
theorem g_worth (X : (hd.heap_39 p).In W.h0) (hgl : W.gl = glOf W.mg W.mb) : GDef W "_law_worth" 19 ["number", "book"] := GDef.ofK X hgl (a := 170) (by kernel_rfl) (k_worth p) (by kernel_rfl)
theorem g_law (X : (hd.heap_39 p).In W.h0) (hgl : W.gl = glOf W.mg W.mb) : GDef W "law" 20 ["script"] := GDef.ofK X hgl (a := 175) (by kernel_rfl) (k_law p) (by kernel_rfl)
theorem m_long (X : (hd.heap_39 p).In W.h0) : MDef W (hd.heap_39 p) 100 "longest_run_of_spaces" 2 ["self"] := ⟨62, by kernel_rfl, by kernel_rfl, DefAt.ofK X (k_long p), KeepOk.frag (by kernel_rfl) X⟩
theorem m_ind (X : (hd.heap_39 p).In W.h0) : MDef W (hd.heap_39 p) 100 "indent_level" 3 ["self", "tabsize"] := ⟨69, by kernel_rfl, by kernel_rfl, DefAt.ofK X (k_ind p), KeepOk.frag (by kernel_rfl) X⟩
theorem m_wit (X : (hd.heap_39 p).In W.h0) : MDef W (hd.heap_39 p) 100 "not_equal_witness" 5 ["self", "other"] := ⟨83, by kernel_rfl, by kernel_rfl, DefAt.ofK X (k_wit p), KeepOk.frag (by kernel_rfl) X⟩
theorem g_blt (X : (hd.heap_39 p).In W.h0) (hgl : W.gl = glOf W.mg W.mb) (hb : ∀ x : Str, x ≠ "__name__" → W.mb x = bootBuiltins x) : Blt W where
  len := gl_blt X hgl hb (by kernel_rfl) (by decide) (by kernel_rfl)
  sum := gl_blt X hgl hb (by kernel_rfl) (by decide) (by kernel_rfl)
  min := gl_blt X hgl hb (by kernel_rfl) (by decide) (by kernel_rfl)
  max := gl_blt X hgl hb (by kernel_rfl) (by decide) (by kernel_rfl)
  hex := gl_blt X hgl hb (by kernel_rfl) (by decide) (by kernel_rfl)
  range := gl_blt X hgl hb (by kernel_rfl) (by decide) (by kernel_rfl)
  str := gl_blt X hgl hb (by kernel_rfl) (by decide) (by kernel_rfl)
  tuple := gl_blt X hgl hb (by kernel_rfl) (by decide) (by kernel_rfl)
  enum := gl_blt X hgl hb (by kernel_rfl) (by decide) (by kernel_rfl)
theorem g_pats (X : (hd.heap_39 p).In W.h0) (hgl : W.gl = glOf W.mg W.mb) : Pats W where
  crlf := ⟨strTok (nsIn (hd.heap_39 p) mainGlobals (Str.ofString "CRLF")), gl_glob X hgl (by kernel_rfl)⟩
  p1 := ⟨117, gl_glob X hgl (by kernel_rfl), PatAt.ofK X (C := 116) (by kernel_rfl)⟩
  p2 := ⟨122, gl_glob X hgl (by kernel_rfl), PatAt.ofK X (C := 121) (by kernel_rfl)⟩
theorem g_tabs (X : (hd.heap_39 p).In W.h0) (hgl : W.gl = glOf W.mg W.mb) : Tabs W where
  fl := ⟨105, gl_glob X hgl (by kernel_rfl), tab_ofK X (name := Str.ofString "COMPILER_FLAG_NAMES") (by kernel_rfl) (by kernel_rfl)⟩
theorem g_own (p : Params) : ∀ m ∈ (["raw", "n", "nt", "norm", "is_simple"] : List String), findIn (hd.heap_39 p) (.ref 100) (Str.ofString m) = some none ∧ takerIn (hd.heap_39 p) 100 (Str.ofString m) = some none := fun m hm => by
  simp only [List.mem_cons, List.not_mem_nil, or_false] at hm
  rcases hm with rfl | rfl | rfl | rfl | rfl <;> exact ⟨by kernel_rfl, by kernel_rfl⟩
theorem g_cls (X : (hd.heap_39 p).In W.h0) (hgl : W.gl = glOf W.mg W.mb) : GCls W (hd.heap_39 p) 100 where
  kin := X
  name := gl_glob X hgl (by kernel_rfl)
  keep := KeepOk.frag (by kernel_rfl) X
  getA := by kernel_rfl
  noGA := by kernel_rfl
  setA := by kernel_rfl
  over := by kernel_rfl
  hasd := by kernel_rfl
  makes := by kernel_rfl
  own := g_own p
  clsS := ⟨.type "type", clsTok (findCls (hd.heap_39 p) (.ref 100) (.type "type") (Str.ofString "S")), by kernel_rfl, by kernel_rfl⟩
  clsT := ⟨.type "type", clsTok (findCls (hd.heap_39 p) (.ref 100) (.type "type") (Str.ofString "T")), by kernel_rfl, by kernel_rfl⟩
  init := ⟨55, by kernel_rfl, by kernel_rfl, DefAt.ofK X (k_init p)⟩
theorem g_law' (X : (hd.heap_39 p).In W.h0) (hgl : W.gl = glOf W.mg W.mb) (hb : ∀ x : Str, x ≠ "__name__" → W.mb x = bootBuiltins x) : GLaw W (hd.heap_39 p) 100 where
  ws := ⟨g_cls X hgl, m_long X, m_ind X, m_wit X⟩
  m := ⟨g_words X hgl, g_laid X hgl, g_even X hgl, g_quote X hgl, g_pats X hgl, g_blt X hgl hb⟩
  tabs := g_tabs X hgl
  fix := g_fix X hgl
  pretty := g_pretty X hgl
  mails := g_mails X hgl
  hooks := g_hooks X hgl
  worth := g_worth X hgl
  sys := let ⟨o, h, _⟩ := fd_at (a := 112) X (k_pretty p).is; ⟨112, o, h, by decide⟩
end
end
section
set_option maxRecDepth 100000
theorem law_fv (ns : List Int) : FV (fscope 20 tops).names (["script"].zip [.d (.list (ns.map .int))]) (lawW (sScr ns) .unb .unb .unb .unb .unb .unb .unb .unb .unb .unb .unb .unb .unb .unb .unb .unb .unb .unb .unb .unb .unb .unb .unb .unb) := by
  refine .ploc ⟨by decide, by decide⟩ (by decide +kernel) List.mem_cons_self ?_
  refine .loc ⟨by decide, by decide⟩ (by decide +kernel) ?_
  refine .loc ⟨by decide, by decide⟩ (by decide +kernel) ?_
  refine .loc ⟨by decide, by decide⟩ (by decide +kernel) ?_
  refine .cell ⟨by decide, by decide⟩ (by decide +kernel) ?_
  refine .loc ⟨by decide, by decide⟩ (by decide +kernel) ?_
  refine .loc ⟨by decide, by decide⟩ (by decide +kernel) ?_
  refine .loc ⟨by decide, by decide⟩ (by decide +kernel) ?_
  refine .loc ⟨by decide, by decide⟩ (by decide +kernel) ?_
  refine .loc ⟨by decide, by decide⟩ (by decide +kernel) ?_
  refine .loc ⟨by decide, by decide⟩ (by decide +kernel) ?_
  refine .loc ⟨by decide, by decide⟩ (by decide +kernel) ?_
  refine .loc ⟨by decide, by decide⟩ (by decide +kernel) ?_
  refine .loc ⟨by decide, by decide⟩ (by decide +kernel) ?_
  refine .loc ⟨by decide, by decide⟩ (by decide +kernel) ?_
  refine .loc ⟨by decide, by decide⟩ (by decide +kernel) ?_
  refine .loc ⟨by decide, by decide⟩ (by decide +kernel) ?_
  refine .loc ⟨by decide, by decide⟩ (by decide +kernel) ?_
  refine .loc ⟨by decide, by decide⟩ (by decide +kernel) ?_
  refine .loc ⟨by decide, by decide⟩ (by decide +kernel) ?_
  refine .cell ⟨by decide, by decide⟩ (by decide +kernel) ?_
  refine .loc ⟨by decide, by decide⟩ (by decide +kernel) ?_
  refine .cell ⟨by decide, by decide⟩ (by decide +kernel) ?_
  refine .loc ⟨by decide, by decide⟩ (by decide +kernel) ?_
  refine .cell ⟨by decide, by decide⟩ (by decide +kernel) ?_
  refine .glob ⟨by decide, by decide⟩ (by decide +kernel) ?_
  refine .glob ⟨by decide, by decide⟩ (by decide +kernel) ?_
  refine .glob ⟨by decide, by decide⟩ (by decide +kernel) ?_
  refine .glob ⟨by decide, by decide⟩ (by decide +kernel) ?_
  refine .glob ⟨by decide, by decide⟩ (by decide +kernel) ?_
  refine .glob ⟨by decide, by decide⟩ (by decide +kernel) ?_
  refine .glob ⟨by decide, by decide⟩ (by decide +kernel) ?_
  refine .glob ⟨by decide, by decide⟩ (by decide +kernel) ?_
  refine .glob ⟨by decide, by decide⟩ (by decide +kernel) ?_
  refine .glob ⟨by decide, by decide⟩ (by decide +kernel) ?_
  exact .nil
/-- law, called at a list of ints: True, and all that was stays -/
theorem law_code {W : Wd} {p : Params} {ns : List Int} {s : Shared} {a : Addr} {vs : List Value} {R : Result → Shared → Prop} (X : (hd.heap_39 p).In W.h0) (hgl : W.gl = glOf W.mg W.mb) (hb : ∀ x : Str, x ≠ "__name__" → W.mb x = bootBuiltins x) (hs : s.heap = W.h0)
    (hn : ns.length ≤ 63) (hL : s.heap.IsList a vs.toArray) (hI : IntsAre vs ns)
    (q : ∀ h' tk, (∀ b o, s.heap.get? b = some o → h'.get? b = some o) → R (.ok (.ret (.bool true))) { s with heap := h', toks := tk }) : codeAny W.md callerA (.call (.ref 175) ⟨[.ref a], []⟩) R s := by
  obtain ⟨n, m, hk, ways, gap, sh, S, ok⟩ := law_ok (drawnOf ns) rfl
  have ex := law_ex (β := Bk0) (d := 0) (g_law' X hgl hb) hn rfl ok
  have c : Co W (0 + 140 + 1) callerA [] none Bk0 s := ⟨rfl, by decide, by decide, fun b o e => ⟨by rw [hs]; exact e, List.not_mem_nil⟩, fun m hm => absurd hm List.not_mem_nil, trivial⟩
  obtain ⟨o, h1, h2, k, h3⟩ := hL
  have hv : PRs (frz s.heap []) none [.ref a] [.d (.list (ns.map .int))] := .cons (.d (.list (frz_some.mpr ⟨List.not_mem_nil, h1⟩) h2 h3 (by simpa using ints_vrs hI))) .nil
  refine Def.code (DefAt.ofK X (k_law p)) rfl (by decide) (law_fv ns) ex c hv fun v h' tk kp pr => ?_
  cases pr.out
  exact q h' tk fun b o e => kp b o e (by simp)
end
end
end Sw


set_option maxRecDepth 100000 in
set_option maxHeartbeats 8000000 in
theorem PySem.Challenge.cw_sn0029_01_holds : PySem.Challenge.rw_sn0029_01.Holds :=
  Sw.hd (by
  k_fill
  intro w s₀ s₁ mg mb G Y fa o pm cd doc dV kV ho hd0 hcd hD hmg hg args vals as hpre hlay hrd hwl hlo
  have KX := kIn_of Y
  refine Ground.open G ?_
  intro T B D TE TW
  try (refine guard_noD D (by decide +kernel) ?_; clear D)
  have hfa : fa = 175 := by
    have e1 : mg (Str.ofString "law") = some (.ref 175) := mg_of KX T.g (by kernel_rfl)
    have e2 : mg (Str.ofString "law") = some (.ref fa) := hmg
    rw [e1] at e2
    injection e2 with e2
    injection e2 with e2
    exact e2.symm
  subst hfa
  clear hmg ho hd0 hcd hD B TE TW
  wrow_args hpre hlay hrd hwl hlo
  all_goals (
    first | refine callC_kw (enter_call ?_) | refine enter_call ?_ | refine callC_kw (enter_callW ?_) | refine enter_callW ?_ | w_how
    try refine codeAny_mono ?_ (fun _ _ g => GoodW.toG g))
  rename List Int => ns
  rename IntsAre _ _ => hI
  rename Heap.IsList _ _ _ => hL
  have hn : ns.length ≤ 63 := by omega
  refine Sw.law_code (W := Sw.mkW PySem.Challenge.rw_sn0029_01.row.prog w s₁.heap mg mb T.g T.b T.nolimit) KX rfl T.builtins rfl hn hL hI fun h' tk keep => ?_
  refine ⟨.inl ⟨.bool true, .bool true, [], rfl, ?_, .bool true, ?_, ?_⟩, keep, rfl, hg⟩
  · first | (intro cls; rfl) | exact raisesW_false (by wrow_none_raised)
  · first | rfl | kernel_rfl | (refine' postW_of ?s ?v ?e; (case s => o_shape); (case v => wtm_val); (case e => w_fin))
  · exact fun _ => ⟨List.nodup_nil, fun a h => absurd h List.not_mem_nil⟩)
