import PyProof.Rows.All
import Wide.All
import OpenK.KMore
import Open.Line
import Wide.FinOn
import PySem.Challenge.RW_rs0170_01
set_option Elab.async false
set_option autoImplicit false
set_option maxRecDepth 100000

-- part M1
namespace Mine
open PySem PySem.W PyProof.Rows

/-- data as this proof speaks of it -/
inductive D where
  | none
  | bool (b : Bool)
  | int (i : Int)
  | str (x : Str)
  | list (ds : List D)
  | tuple (ds : List D)
  | ws (cs : List Int) (b : Int)
  | rng (a c : Int) (n : Nat)

abbrev D.il (l : List Int) : D := .list (l.map .int)
abbrev D.tl (l : List Int) : D := .tuple (l.map .int)
abbrev D.bl (l : List Bool) : D := .list (l.map .bool)

/-- the written part of the heap, and what is known of it -/
structure Cx where
  prog : Program
  w : World
  hb : Heap
  K : Frag
  X : K.In hb
  mg : Str → Option Value
  mb : Str → Option Value
  G : hb.Ns mainGlobals mg
  B : hb.Ns builtinsNs mb
  lim : hb.NoLimit
  cw : Addr

abbrev Cx.M (C : Cx) : Model := model C.prog C.w

abbrev no : Addr → Prop := fun _ => False
abbrev one (c : Addr) : Addr → Prop := fun a => a = c
/-- heap objects off ch are kept -/
structure XB (ch : Addr → Prop) (s s' : Shared) : Prop where
  keep : ∀ b o, ¬ ch b → s.heap.get? b = some o → s'.heap.get? b = some o
  live : ∀ b o, s.heap.get? b = some o → ∃ o', s'.heap.get? b = some o'
  os : s'.os = s.os
  gens : ∀ (i : Nat) x, s.gens[i]? = some x → s'.gens[i]? = some x
  bare : AllBare s.gens → AllBare s'.gens

theorem XB.refl (ch : Addr → Prop) (s : Shared) : XB ch s s := ⟨fun _ _ _ e => e, fun _ o e => ⟨o, e⟩, rfl, fun _ _ e => e, id⟩
theorem XB.trans {ch : Addr → Prop} {s s' s'' : Shared} (x : XB ch s s') (y : XB ch s' s'') : XB ch s s'' :=
  ⟨fun b o hb e => y.keep b o hb (x.keep b o hb e), fun b o e => let ⟨o', e'⟩ := x.live b o e; y.live b o' e', y.os.trans x.os, fun i v e => y.gens i v (x.gens i v e), fun h => y.bare (x.bare h)⟩
theorem XB.mono {ch ch' : Addr → Prop} {s s' : Shared} (x : XB ch s s') (h : ∀ a, ch a → ch' a) : XB ch' s s' :=
  ⟨fun b o hb e => x.keep b o (fun m => hb (h b m)) e, x.live, x.os, x.gens, x.bare⟩
theorem XB.of_heap {ch : Addr → Prop} {s : Shared} {h' : Heap} {tk : Nat} (k : ∀ b o, s.heap.get? b = some o → h'.get? b = some o) :
    XB ch s { s with heap := h', toks := tk } := ⟨fun b o _ e => k b o e, fun b o e => ⟨o, k b o e⟩, rfl, fun _ _ e => e, id⟩
theorem XB.tok (ch : Addr → Prop) (s : Shared) (tk : Nat) : XB ch s { s with toks := tk } := ⟨fun _ _ _ e => e, fun _ o e => ⟨o, e⟩, rfl, fun _ _ e => e, id⟩
theorem XB.push (ch : Addr → Prop) (s : Shared) (o : Obj) (tk : Nat) : XB ch s { s with heap := s.heap.push o, toks := tk } :=
  .of_heap (fun _ _ e => Heap.get?_push_of_some o e)
theorem XB.nil {ch : Addr → Prop} {s s' : Shared} (x : XB no s s') : XB ch s s' := x.mono fun _ h => h.elim
theorem XB.keeps {s s' : Shared} (x : XB no s s') : ∀ b o, s.heap.get? b = some o → s'.heap.get? b = some o := fun b o e => x.keep b o id e
theorem XB.sameBut {s : Shared} {h' : Heap} {a : Addr} {tk : Nat} (x : Heap.SameBut a s.heap h') (l : ∃ o, h'.get? a = some o) : XB (one a) s { s with heap := h', toks := tk } :=
  ⟨fun b o hb e => (x.2 b hb).trans e, fun b o e => by
    by_cases q : b = a
    · rw [q]; exact l
    · exact ⟨o, (x.2 b q).trans e⟩, rfl, fun _ _ e => e, id⟩
theorem XB.dead {ch : Addr → Prop} {s s' : Shared} (x : XB ch s s') {a : Addr} (n : s'.heap.get? a = none) : s.heap.get? a = none := by
  cases e : s.heap.get? a with
  | none => rfl
  | some o => obtain ⟨o', e'⟩ := x.live a o e; rw [n] at e'; cases e'

-- ws cs b: an object of the class at C.cw that carries the norm (cs, b)
mutual
def Rep (C : Cx) (h : Heap) (own : List Addr) : Value → D → Prop
  | v, .none => v = .none
  | v, .bool b => v = .bool b
  | v, .int i => ∃ t, v = .int i t
  | v, .str x => ∃ t, v = .str x t
  | v, .list ds => ∃ a vs, v = .ref a ∧ a ∉ own ∧ h.IsList a (List.toArray vs) ∧ RepL C h own vs ds
  | v, .tuple ds => ∃ a vs, v = .ref a ∧ a ∉ own ∧ h.IsTuple a (List.toArray vs) ∧ RepL C h own vs ds
  | v, .ws cs b => ∃ x dx es n nv ta ca cvs bt, v = .ref x ∧ x ∉ own ∧ dx ∉ own ∧ ta ∉ own ∧ ca ∉ own ∧ h.get? x = some (instObj C.cw dx) ∧ h.get? dx = some (dictOf es n) ∧
      getL "norm" es = some (some nv) ∧ getL "equal" es = some none ∧ nv = .ref ta ∧ h.IsTuple ta #[.ref ca, .int b bt] ∧ h.IsTuple ca (List.toArray cvs) ∧ IntsAre cvs cs
  | v, .rng a c n => ∃ r b t u z, v = .ref r ∧ r ∉ own ∧ IsRange h r a b c t u z ∧ Builtin.Range.small a b c = true ∧ Builtin.Range.rangeSize a b c = n
def RepL (C : Cx) (h : Heap) (own : List Addr) : List Value → List D → Prop
  | vs, [] => vs = []
  | vs, d :: ds => ∃ v r, vs = v :: r ∧ Rep C h own v d ∧ RepL C h own r ds
end

section
variable {C : Cx} {h h' : Heap} {own own' : List Addr}

mutual
theorem Rep.move : ∀ (d : D) {v : Value}, Rep C h own v d → (∀ b o, b ∉ own → h.get? b = some o → h'.get? b = some o) → (∀ a ∈ own', a ∈ own ∨ h.get? a = none) → Rep C h' own' v d
  | .none, _, r, _, _ => by simpa only [Rep] using r
  | .bool _, _, r, _, _ => by simpa only [Rep] using r
  | .int _, _, r, _, _ => by simpa only [Rep] using r
  | .str _, _, r, _, _ => by simpa only [Rep] using r
  | .list ds, v, r, k, q => by
    simp only [Rep] at r ⊢
    obtain ⟨a, vs, rfl, ha, ⟨o, ho, hc, hd⟩, hr⟩ := r
    refine ⟨a, vs, rfl, fun m => ?_, ⟨o, k _ _ ha ho, hc, hd⟩, RepL.move ds hr k q⟩
    rcases q a m with z | z
    · exact ha z
    · rw [ho] at z; cases z
  | .tuple ds, v, r, k, q => by
    simp only [Rep] at r ⊢
    obtain ⟨a, vs, rfl, ha, ⟨o, ho, hc, hd⟩, hr⟩ := r
    refine ⟨a, vs, rfl, fun m => ?_, ⟨o, k _ _ ha ho, hc, hd⟩, RepL.move ds hr k q⟩
    rcases q a m with z | z
    · exact ha z
    · rw [ho] at z; cases z
  | .ws cs b, v, r, k, q => by
    simp only [Rep] at r ⊢
    obtain ⟨x, dx, es, n, nv, ta, ca, cvs, bt, rfl, h1, h2, h3, h4, h5, h6, h7, h8, h9, ⟨o1, i1, i2⟩, ⟨o2, j1, j2⟩, h10⟩ := r
    have no : ∀ a o, a ∉ own → h.get? a = some o → a ∉ own' := fun a o ha e m => by
      rcases q a m with z | z
      · exact ha z
      · rw [e] at z; cases z
    exact ⟨x, dx, es, n, nv, ta, ca, cvs, bt, rfl, no _ _ h1 h5, no _ _ h2 h6, no _ _ h3 i1, no _ _ h4 j1, k _ _ h1 h5, k _ _ h2 h6, h7, h8, h9, ⟨o1, k _ _ h3 i1, i2⟩, ⟨o2, k _ _ h4 j1, j2⟩, h10⟩
  | .rng a c n, v, r, k, q => by
    simp only [Rep] at r ⊢
    obtain ⟨r, b, t, u, z, rfl, ha, ho, hs⟩ := r
    refine ⟨r, b, t, u, z, rfl, fun m => ?_, k _ _ ha ho, hs⟩
    rcases q r m with y | y
    · exact ha y
    · rw [ho] at y; cases y
theorem RepL.move : ∀ (ds : List D) {vs : List Value}, RepL C h own vs ds → (∀ b o, b ∉ own → h.get? b = some o → h'.get? b = some o) → (∀ a ∈ own', a ∈ own ∨ h.get? a = none) → RepL C h' own' vs ds
  | [], _, r, _, _ => by simpa only [RepL] using r
  | d :: ds, vs, r, k, q => by
    simp only [RepL] at r ⊢
    obtain ⟨v, t, rfl, r1, r2⟩ := r
    exact ⟨v, t, rfl, Rep.move d r1 k q, RepL.move ds r2 k q⟩
end

theorem Rep.less {d : D} {v : Value} (r : Rep C h own v d) (q : ∀ a ∈ own', a ∈ own) : Rep C h own' v d := r.move d (fun _ _ _ e => e) fun a m => .inl (q a m)
theorem RepL.less {d : List D} {v : List Value} (r : RepL C h own v d) (q : ∀ a ∈ own', a ∈ own) : RepL C h own' v d := r.move d (fun _ _ _ e => e) fun a m => .inl (q a m)
theorem Rep.keeps {d : D} {v : Value} (r : Rep C h own v d) (k : ∀ b o, h.get? b = some o → h'.get? b = some o) : Rep C h' own v d := r.move d (fun _ _ _ e => k _ _ e) fun _ m => .inl m
theorem RepL.keeps {d : List D} {v : List Value} (r : RepL C h own v d) (k : ∀ b o, h.get? b = some o → h'.get? b = some o) : RepL C h' own v d := r.move d (fun _ _ _ e => k _ _ e) fun _ m => .inl m
theorem Rep.xb {s s' : Shared} {ch : Addr → Prop} {d : D} {v : Value} (r : Rep C s.heap own v d) (x : XB ch s s') (hc : ∀ a, ch a → a ∈ own) : Rep C s'.heap own v d :=
  r.move d (fun b o hb e => x.keep b o (fun m => hb (hc b m)) e) fun _ m => .inl m
theorem RepL.xb {s s' : Shared} {ch : Addr → Prop} {d : List D} {v : List Value} (r : RepL C s.heap own v d) (x : XB ch s s') (hc : ∀ a, ch a → a ∈ own) : RepL C s'.heap own v d :=
  r.move d (fun b o hb e => x.keep b o (fun m => hb (hc b m)) e) fun _ m => .inl m
/-- more addresses that are fresh -/
theorem Rep.fresh {d : D} {v : Value} {l : List Addr} (r : Rep C h own v d) (q : ∀ a ∈ l, h.get? a = none) : Rep C h (l ++ own) v d :=
  r.move d (fun _ _ _ e => e) fun a m => (List.mem_append.mp m).elim (fun z => .inr (q a z)) .inl
theorem RepL.fresh {d : List D} {v : List Value} {l : List Addr} (r : RepL C h own v d) (q : ∀ a ∈ l, h.get? a = none) : RepL C h (l ++ own) v d :=
  r.move d (fun _ _ _ e => e) fun a m => (List.mem_append.mp m).elim (fun z => .inr (q a z)) .inl

theorem RepL.length : ∀ {ds : List D} {vs : List Value}, RepL C h own vs ds → vs.length = ds.length
  | [], vs, r => by simp only [RepL] at r; rw [r]; rfl
  | d :: ds, vs, r => by
    simp only [RepL] at r
    obtain ⟨v, t, rfl, _, r2⟩ := r
    rw [List.length_cons, List.length_cons, RepL.length r2]
theorem RepL.get : ∀ {ds : List D} {vs : List Value}, RepL C h own vs ds → ∀ (i : Nat) (d : D), ds[i]? = some d → ∃ v, vs[i]? = some v ∧ Rep C h own v d
  | [], vs, r, i, d, e => by simp at e
  | d :: ds, vs, r, i, d', e => by
    simp only [RepL] at r
    obtain ⟨v, t, rfl, r1, r2⟩ := r
    cases i with
    | zero => simp at e; subst e; exact ⟨v, rfl, r1⟩
    | succ i => simpa using RepL.get r2 i d' (by simpa using e)
theorem RepL.append : ∀ {ds ds' : List D} {vs vs' : List Value}, RepL C h own vs ds → RepL C h own vs' ds' → RepL C h own (vs ++ vs') (ds ++ ds')
  | [], ds', vs, vs', r, r' => by simp only [RepL] at r; subst r; exact r'
  | d :: ds, ds', vs, vs', r, r' => by
    simp only [RepL] at r
    obtain ⟨v, t, rfl, r1, r2⟩ := r
    simp only [List.cons_append, RepL]
    exact ⟨v, t ++ vs', rfl, r1, RepL.append r2 r'⟩
theorem RepL.single {d : D} {v : Value} (r : Rep C h own v d) : RepL C h own [v] [d] := by simp only [RepL]; exact ⟨v, [], rfl, r, rfl⟩
theorem RepL.il : ∀ {l : List Int} {vs : List Value}, RepL C h own vs (l.map .int) ↔ IntsAre vs l
  | [], vs => by
    simp only [List.map_nil, RepL]
    exact ⟨fun e => e ▸ .nil, fun e => by cases e; rfl⟩
  | i :: l, vs => by
    simp only [List.map_cons, RepL, Rep]
    constructor
    · rintro ⟨v, t, rfl, ⟨tk, rfl⟩, r⟩
      exact .cons _ _ (RepL.il.mp r)
    · intro e
      cases e with
      | cons _ _ r => exact ⟨_, _, rfl, ⟨_, rfl⟩, RepL.il.mpr r⟩
end
end Mine

-- part M2
namespace Mine
open PySem PySem.W PyProof.Rows

structure Ok (n : Nat) (A : Around) : Prop where
  handled : A.handled = none
  depth : A.depth + n < recursionLimit
  units : A.units + 10 * n + 100 < cLine
theorem Ok.le {n m : Nat} {A : Around} (h : Ok n A) (l : m ≤ n) : Ok m A := ⟨h.handled, by have := h.depth; omega, by have := h.units; omega⟩
theorem Ok.room {n : Nat} {A : Around} (h : Ok n A) : A.depth < recursionLimit := by have := h.depth; omega
theorem Ok.line {n : Nat} {A : Around} (h : Ok n A) : A.units < cLine := by have := h.units; omega
theorem Ok.in1 {n : Nat} {A : Around} (h : Ok (n + 1) A) : Ok n A.in1 := ⟨h.handled, by have := h.depth; show A.depth + n < _; omega, by have := h.units; show A.units + 1 + _ + _ < _; omega⟩
theorem Ok.deeper {n : Nat} {A : Around} {env : Env} (h : Ok (n + 1) A) : Ok n (A.deeper env) := ⟨h.handled, by have := h.depth; show A.depth + 1 + n < _; omega, by have := h.units; show A.units + 3 + _ + _ < _; omega⟩

structure Inv (C : Cx) (s : Shared) (own : List Addr) : Prop where
  top : ∀ b o, C.hb.get? b = some o → s.heap.get? b = some o
  live : ∀ a ∈ own, ∃ o, s.heap.get? a = some o
  off : ∀ a ∈ own, C.hb.get? a = none

theorem Inv.xb {C : Cx} {s s' : Shared} {own : List Addr} {ch : Addr → Prop} (I : Inv C s own) (x : XB ch s s') (hc : ∀ a, ch a → a ∈ own) : Inv C s' own :=
  ⟨fun b o e => x.keep b o (fun m => by have := I.off b (hc b m); rw [e] at this; cases this) (I.top b o e), fun a m => let ⟨o, e⟩ := I.live a m; x.live a o e, I.off⟩
theorem Inv.x0 {C : Cx} {s s' : Shared} {own : List Addr} (I : Inv C s own) (x : XB no s s') : Inv C s' own := I.xb x fun _ h => h.elim
theorem Inv.less {C : Cx} {s : Shared} {own own' : List Addr} (I : Inv C s own) (q : ∀ a ∈ own', a ∈ own) : Inv C s own' := ⟨I.top, fun a m => I.live a (q a m), fun a m => I.off a (q a m)⟩
theorem get_size {h : Heap} : h.get? h.objs.size = none := by
  cases e : h.get? h.objs.size with
  | none => rfl
  | some o => exact absurd (Heap.lt_size e) (Nat.lt_irrefl _)
theorem get_ge {h : Heap} {a : Addr} (l : h.objs.size ≤ a) : h.get? a = none := by
  cases e : h.get? a with
  | none => rfl
  | some o => exact absurd (Heap.lt_size e) (Nat.not_lt.mpr l)
theorem Inv.new {C : Cx} {s : Shared} {own : List Addr} (I : Inv C s own) {a : Addr} (l : s.heap.get? a = none) : C.hb.get? a = none := by
  cases e : C.hb.get? a with
  | none => rfl
  | some o => have := I.top a o e; rw [l] at this; cases this
theorem Inv.notOwn {C : Cx} {s : Shared} {own : List Addr} (I : Inv C s own) {a : Addr} (l : s.heap.get? a = none) : a ∉ own := fun m => by
  obtain ⟨o, e⟩ := I.live a m; rw [l] at e; cases e
theorem Inv.lim {C : Cx} {s : Shared} {own : List Addr} (I : Inv C s own) : s.heap.NoLimit := C.lim.keeps I.top
theorem Inv.g {C : Cx} {s : Shared} {own : List Addr} (I : Inv C s own) : s.heap.Ns mainGlobals C.mg := C.G.keeps I.top
theorem Inv.b {C : Cx} {s : Shared} {own : List Addr} (I : Inv C s own) : s.heap.Ns builtinsNs C.mb := C.B.keeps I.top
theorem Inv.K {C : Cx} {s : Shared} {own : List Addr} (I : Inv C s own) : C.K.In s.heap := C.X.keeps I.top
theorem Inv.cons {C : Cx} {s s' : Shared} {own : List Addr} (I : Inv C s own) {a : Addr} (l : s.heap.get? a = none) (x : XB no s s') (l' : ∃ o, s'.heap.get? a = some o) : Inv C s' (a :: own) :=
  ⟨(I.x0 x).top, fun b m => by rcases List.mem_cons.mp m with rfl | m; exact l'; exact (I.x0 x).live b m, fun b m => by rcases List.mem_cons.mp m with rfl | m; exact I.new l; exact I.off b m⟩

/-- a name read gives a value -/
def Rd (env : Env) (h : Heap) (x : Str) (v : Value) : Prop :=
  (env.kindOf x = some .local ∧ ∃ m, h.Ns env.locals m ∧ m x = some v) ∨
  ((env.kindOf x = some .cell ∨ env.kindOf x = some .free) ∧ ∃ c, env.cells.lookup x = some c ∧ h.IsCell c (some v))
theorem Rd.keeps {env : Env} {h h' : Heap} {x : Str} {v : Value} (r : Rd env h x v) (k : ∀ b o, h.get? b = some o → h'.get? b = some o) : Rd env h' x v := by
  rcases r with ⟨a, m, b, c⟩ | ⟨a, c, b, d⟩
  · exact .inl ⟨a, m, b.keeps k, c⟩
  · exact .inr ⟨a, c, b, d.keeps k⟩
theorem Rd.load {M : Model} {A : Around} {E : Value → Shared → Prop} {s : Shared} {env : Env} {x : Str} {v : Value} {Q : Value → Shared → Prop} (r : Rd env s.heap x v) (hk : env.scope.kind = .function)
    (hq : Q v s) (hc : (x == ("__classdict__" : Str)) = false := by decide) : wpAny M A (loadName env x) Q E s := by
  rcases r with ⟨a, m, b, c⟩ | ⟨a | a, c, b, d⟩
  · exact wpAny_loadName_local hk a b c hq
  · exact wpAny_loadName_cell hk a b d hq
  · exact wpAny_loadName_free hk a b d hq hc

/-- what a name of the frame holds: data, or a list of the frame's own at an address -/
inductive Sp where
  | cl (d : D)
  | at (a : Addr)
  | raw (u : Value)
def Sp.Is (C : Cx) (h : Heap) (own : List Addr) (v : Value) : Sp → Prop
  | .cl d => Rep C h own v d
  | .at a => v = .ref a ∧ a ∈ own ∧ ∃ its, h.PlainList a its
  | .raw u => v = u

abbrev Rho := Str → Option Sp
abbrev Lst := Addr → Option (List D)
def Rho.set (ρ : Rho) (x : Str) (p : Sp) : Rho := fun y => if y = x then some p else ρ y
def Lst.set (l : Lst) (a : Addr) (ds : List D) : Lst := fun b => if b = a then some ds else l b
def noL : Lst := fun _ => none

structure Frm (C : Cx) (env : Env) (h : Heap) (own : List Addr) (ρ : Rho) (lst : Lst) : Prop where
  kind : env.scope.kind = .function
  glob : env.globals = mainGlobals
  bui : env.builtins = builtinsNs
  loc : ∃ m, h.Ns env.locals m
  cel : ∀ n c, env.cells.lookup n = some c → ∃ v, h.IsCell c v
  apart : ∀ n n' c, env.cells.lookup n = some c → env.cells.lookup n' = some c → n = n'
  ne : ∀ n c, env.cells.lookup n = some c → c ≠ env.locals
  lown : env.locals ∈ own
  cown : ∀ n c, env.cells.lookup n = some c → c ∈ own
  get : ∀ x p, ρ x = some p → ∃ v, Rd env h x v ∧ p.Is C h own v
  lst : ∀ a ds, lst a = some ds → a ∈ own ∧ ∃ vs, h.PlainList a (List.toArray vs) ∧ RepL C h own vs ds

section
variable {C : Cx} {env : Env} {h h' : Heap} {own own' : List Addr} {ρ : Rho} {lst : Lst}
theorem Sp.Is.keeps {v : Value} {p : Sp} (r : p.Is C h own v) (k : ∀ b o, h.get? b = some o → h'.get? b = some o) : p.Is C h' own v := by
  cases p with
  | cl d => exact Rep.keeps r k
  | «at» a => exact ⟨r.1, r.2.1, let ⟨i, p⟩ := r.2.2; ⟨i, p.at fun o e => k _ o e⟩⟩
  | raw u => exact r
theorem Frm.keeps (F : Frm C env h own ρ lst) (k : ∀ b o, h.get? b = some o → h'.get? b = some o) : Frm C env h' own ρ lst :=
  { F with
    loc := let ⟨m, n⟩ := F.loc; ⟨m, n.keeps k⟩
    cel := fun n c e => let ⟨v, z⟩ := F.cel n c e; ⟨v, z.keeps k⟩
    get := fun x p e => let ⟨v, r, z⟩ := F.get x p e; ⟨v, r.keeps k, z.keeps k⟩
    lst := fun a ds e => let ⟨m, vs, l, r⟩ := F.lst a ds e; ⟨m, vs, l.at fun o q => k _ o q, r.keeps k⟩ }
/-- fresh addresses become own -/
theorem Frm.more (F : Frm C env h own ρ lst) {l : List Addr} (q : ∀ a ∈ l, h.get? a = none) : Frm C env h (l ++ own) ρ lst :=
  { F with
    lown := List.mem_append_right _ F.lown
    cown := fun n c e => List.mem_append_right _ (F.cown n c e)
    get := fun x p e => by
      obtain ⟨v, r, z⟩ := F.get x p e
      refine ⟨v, r, ?_⟩
      cases p with
      | cl d => exact Rep.fresh (d := d) z q
      | «at» a => exact ⟨z.1, List.mem_append_right _ z.2.1, z.2.2⟩
      | raw u => exact z
    lst := fun a ds e => let ⟨m, vs, l, r⟩ := F.lst a ds e; ⟨List.mem_append_right _ m, vs, l, r.fresh q⟩ }
end
theorem Frm.x0 {C : Cx} {env : Env} {s s' : Shared} {own : List Addr} {ρ : Rho} {lst : Lst} (F : Frm C env s.heap own ρ lst) (x : XB no s s') : Frm C env s'.heap own ρ lst := F.keeps x.keeps

/-- a pure expression: the value it gives, whatever the state -/
def PE (C : Cx) (n : Nat) (env : Env) (ρ : Rho) (e : Expr) (d : D) : Prop :=
  ∀ (A : Around) (own : List Addr) (lst : Lst) (s : Shared) (Q E : Value → Shared → Prop), Ok n A → Inv C s own → Frm C env s.heap own ρ lst →
    (∀ v s', XB no s s' → Rep C s'.heap own v d → Q v s') → wpAny C.M A (eval e env) Q E s
/-- a test -/
def PT (C : Cx) (n : Nat) (env : Env) (ρ : Rho) (e : Expr) (b : Bool) : Prop :=
  ∀ (A : Around) (own : List Addr) (lst : Lst) (s : Shared) (Q : Bool → Shared → Prop) (E : Value → Shared → Prop), Ok n A → Inv C s own → Frm C env s.heap own ρ lst →
    (∀ s', XB no s s' → Q b s') → wpAny C.M A (isTrue e env (eval e env)) Q E s
/-- an operation on two values -/
def Op2 (C : Cx) (n : Nat) (op : Value → Value → Sem Value) (a b d : D) : Prop :=
  ∀ (A : Around) (own : List Addr) (s : Shared) (u v : Value) (Q E : Value → Shared → Prop), Ok n A → Inv C s own → Rep C s.heap own u a → Rep C s.heap own v b →
    (∀ r s', XB no s s' → Rep C s'.heap own r d → Q r s') → wpAny C.M A (op u v) Q E s

section
variable {C : Cx} {n : Nat} {env : Env} {ρ : Rho}

theorem PE.le {m : Nat} {e : Expr} {d : D} (h : PE C n env ρ e d) (l : n ≤ m) : PE C m env ρ e d := fun A own lst s Q E o => h A own lst s Q E (o.le l)
theorem PT.le {m : Nat} {e : Expr} {d : Bool} (h : PT C n env ρ e d) (l : n ≤ m) : PT C m env ρ e d := fun A own lst s Q E o => h A own lst s Q E (o.le l)
theorem PE.cast {e : Expr} {d d' : D} (h : PE C n env ρ e d) (q : d = d') : PE C n env ρ e d' := q ▸ h

theorem pe_name {x : Str} {p : Pos} {d : D} (h : ρ x = some (.cl d)) (hd : (x == ("__debug__" : Str)) = false := by decide) (hc : (x == ("__classdict__" : Str)) = false := by decide) : PE C n env ρ (.Name x p) d := by
  intro A own lst s Q E _ _ F k
  obtain ⟨v, r, z⟩ := F.get x _ h
  exact wpAny_Name (r.load F.kind (k v s (.refl _ _) z) hc) hd
theorem pe_int {i : Int} {k : Nat} {p : Pos} : PE C n env ρ (.Constant (.int i) k p) (.int i) := by
  intro A own lst s Q E _ _ F k
  exact wpAny_Constant_int (k _ _ (.tok _ _ _) ⟨_, rfl⟩)
theorem pe_str {x : Str} {k : Nat} {p : Pos} : PE C n env ρ (.Constant (.str x) k p) (.str x) := by
  intro A own lst s Q E _ _ F k
  exact wpAny_Constant_str (k _ _ (.tok _ _ _) ⟨_, rfl⟩)
theorem pe_none {k : Nat} {p : Pos} : PE C n env ρ (.Constant .none k p) .none := by
  intro A own lst s Q E _ _ F k
  exact wpAny_Constant_none (k _ _ (.refl _ _) rfl)
theorem pe_bool {b : Bool} {k : Nat} {p : Pos} : PE C n env ρ (.Constant (.bool b) k p) (.bool b) := by
  intro A own lst s Q E _ _ F k
  exact wpAny_Constant_bool (k _ _ (.refl _ _) rfl)

theorem pe_bin {l r : Expr} {op : Operator} {p : Pos} {a b d : D} (hl : PE C n env ρ l a) (hr : PE C n env ρ r b) (ho : Op2 C n (binaryOp op) a b d) : PE C n env ρ (.BinOp l op r p) d := by
  intro A own lst s Q E o I F k
  refine wpAny_BinOp (hl A own lst s _ _ o I F fun u s₁ x₁ ru => hr A own lst s₁ _ _ o (I.x0 x₁) (F.x0 x₁) fun v s₂ x₂ rv => ho A own s₂ u v _ _ o (I.x0 (x₁.trans x₂)) (ru.xb x₂ fun _ h => h.elim) rv fun r s₃ x₃ rr => k _ _ ((x₁.trans x₂).trans x₃) rr)
theorem pe_cmp {l r : Expr} {op : CmpOp} {p : Pos} {a b d : D} (hl : PE C n env ρ l a) (hr : PE C n env ρ r b) (ho : Op2 C n (compareOp op) a b d) (hm : behindInMarks op r = false := by with_unfolding_all rfl) :
    PE C n env ρ (.Compare l [op] [r] p) d := by
  intro A own lst s Q E o I F k
  refine wpAny_Compare1 (hl A own lst s _ _ o I F fun u s₁ x₁ ru => hr A own lst s₁ _ _ o (I.x0 x₁) (F.x0 x₁) fun v s₂ x₂ rv => ho A own s₂ u v _ _ o (I.x0 (x₁.trans x₂)) (ru.xb x₂ fun _ h => h.elim) rv fun r s₃ x₃ rr => k _ _ ((x₁.trans x₂).trans x₃) rr) hm
theorem pt_cmp {l r : Expr} {op : CmpOp} {p : Pos} {a b : D} {t : Bool} (hl : PE C n env ρ l a) (hr : PE C n env ρ r b) (ho : Op2 C n (compareOp op) a b (.bool t)) (hm : behindInMarks op r = false := by with_unfolding_all rfl) :
    PT C n env ρ (.Compare l [op] [r] p) t := by
  intro A own lst s Q E o I F k
  refine wpAny_isTrue_Compare1 (hl A own lst s _ _ o I F fun u s₁ x₁ ru => hr A own lst s₁ _ _ o (I.x0 x₁) (F.x0 x₁) fun v s₂ x₂ rv => ho A own s₂ u v _ _ o (I.x0 (x₁.trans x₂)) (ru.xb x₂ fun _ h => h.elim) rv fun r s₃ x₃ rr => ?_) hm
  simp only [Rep] at rr
  subst rr
  exact wpAny_truthy_bool (k _ ((x₁.trans x₂).trans x₃))
theorem pt_or {x : Expr} {y : Expr} {p : Pos} {a b : Bool} (hx : PT C n env ρ x a) (hy : a = false → PT C n env ρ y b) : PT C n env ρ (.BoolOp .Or [x, y] p) (a || b) := by
  intro A own lst s Q E o I F k
  refine wpAny_isTrue_BoolOp (wpAny_allTrue_Or_cons (hx A own lst s _ _ o I F fun s₁ x₁ => ?_))
  cases a with
  | true => exact k _ x₁
  | false =>
    refine wpAny_allTrue_Or_cons (hy rfl A own lst s₁ _ _ o (I.x0 x₁) (F.x0 x₁) fun s₂ x₂ => ?_)
    cases b with
    | true => exact k _ (x₁.trans x₂)
    | false => exact wpAny_allTrue_Or_nil (k _ (x₁.trans x₂))
theorem pe_if {t a b : Expr} {p : Pos} {c : Bool} {d : D} (ht : PT C n env ρ t c) (ha : c = true → PE C n env ρ a d) (hb : c = false → PE C n env ρ b d) : PE C n env ρ (.IfExp t a b p) d := by
  intro A own lst s Q E o I F k
  refine wpAny_IfExp (ht A own lst s _ _ o I F fun s₁ x₁ => ?_)
  cases c with
  | true => exact ha rfl A own lst s₁ _ _ o (I.x0 x₁) (F.x0 x₁) fun v s₂ x₂ r => k _ _ (x₁.trans x₂) r
  | false => exact hb rfl A own lst s₁ _ _ o (I.x0 x₁) (F.x0 x₁) fun v s₂ x₂ r => k _ _ (x₁.trans x₂) r
theorem pe_neg {x : Expr} {p : Pos} {i : Int} (h : PE C n env ρ x (.int i)) : PE C n env ρ (.UnaryOp .USub x p) (.int (-i)) := by
  intro A own lst s Q E o I F k
  refine wpAny_UnaryOp (h A own lst s _ _ o I F fun u s₁ x₁ ru => ?_)
  obtain ⟨t, rfl⟩ := ru
  exact PyProof.Rows.neg_int (k _ _ (x₁.trans (.tok _ _ _)) ⟨_, rfl⟩)

-- operations on ints
theorem op_add {a b : Int} : Op2 C n (binaryOp .Add) (.int a) (.int b) (.int (a + b)) := by
  rintro A own s _ _ Q E o I ⟨t, rfl⟩ ⟨u, rfl⟩ k
  exact PyProof.Rows.add_int (k _ _ (.tok _ _ _) ⟨_, rfl⟩)
theorem op_sub {a b : Int} : Op2 C n (binaryOp .Sub) (.int a) (.int b) (.int (a - b)) := by
  rintro A own s _ _ Q E o I ⟨t, rfl⟩ ⟨u, rfl⟩ k
  exact PyProof.Rows.sub_int' (k _ _ (.tok _ _ _) ⟨_, rfl⟩)
theorem op_mod {a b : Int} (hb : b ≠ 0) : Op2 C n (binaryOp .Mod) (.int a) (.int b) (.int (a.fmod b)) := by
  rintro A own s _ _ Q E o I ⟨t, rfl⟩ ⟨u, rfl⟩ k
  exact PyProof.Rows.mod_int' hb (k _ _ (.tok _ _ _) ⟨_, rfl⟩)
theorem op_div {a b : Int} (hb : b ≠ 0) (hp : Builtin.divisionGoesByPylong a b = false) : Op2 C n (binaryOp .FloorDiv) (.int a) (.int b) (.int (a.fdiv b)) := by
  rintro A own s _ _ Q E o I ⟨t, rfl⟩ ⟨u, rfl⟩ k
  exact PyProof.Rows.floordiv_int hb (k _ _ (.tok _ _ _) ⟨_, rfl⟩) (.inl hp)
theorem op_lt {a b : Int} : Op2 C n (compareOp .Lt) (.int a) (.int b) (.bool (decide (a < b))) := by
  rintro A own s _ _ Q E o I ⟨t, rfl⟩ ⟨u, rfl⟩ k
  exact PySem.P.lt_int (k _ _ (.refl _ _) rfl)
theorem op_le {a b : Int} : Op2 C n (compareOp .LtE) (.int a) (.int b) (.bool (decide (a ≤ b))) := by
  rintro A own s _ _ Q E o I ⟨t, rfl⟩ ⟨u, rfl⟩ k
  exact PySem.P.le_int (k _ _ (.refl _ _) rfl)
theorem op_ge {a b : Int} : Op2 C n (compareOp .GtE) (.int a) (.int b) (.bool (decide (a ≥ b))) := by
  rintro A own s _ _ Q E o I ⟨t, rfl⟩ ⟨u, rfl⟩ k
  exact PySem.P.ge_int (k _ _ (.refl _ _) rfl)
theorem op_eqi {a b : Int} : Op2 C n (compareOp .Eq) (.int a) (.int b) (.bool (a == b)) := by
  rintro A own s _ _ Q E o I ⟨t, rfl⟩ ⟨u, rfl⟩ k
  exact PySem.P.eq_int (k _ _ (.refl _ _) rfl)
theorem op_isnone {d : D} (b : Bool) (hd : b = (match d with | .none => true | _ => false)) : Op2 C n (compareOp .Is) d .none (.bool b) := by
  rintro A own s u v Q E o I ru rv k
  simp only [Rep] at rv
  subst rv
  refine is_none ?_
  have : (u == .none) = b := by
    subst hd
    cases d <;> simp only [Rep] at ru
    · subst ru; rfl
    · subst ru; rfl
    · obtain ⟨_, rfl⟩ := ru; rfl
    · obtain ⟨_, rfl⟩ := ru; rfl
    · obtain ⟨_, _, rfl, _⟩ := ru; rfl
    · obtain ⟨_, _, rfl, _⟩ := ru; rfl
    · obtain ⟨_, _, _, _, _, _, _, _, _, rfl, _⟩ := ru; rfl
    · obtain ⟨_, _, _, _, _, rfl, _⟩ := ru; rfl
  rw [this]
  exact k _ _ (.refl _ _) rfl
theorem op_isbool {a b : Bool} : Op2 C n (compareOp .Is) (.bool a) (.bool b) (.bool (a == b)) := by
  rintro A own s _ _ Q E o I ru rv k
  simp only [Rep] at ru rv
  subst ru; subst rv
  refine wpAny_is_plain rfl ?_
  have : (Value.bool a == Value.bool b) = (a == b) := by cases a <;> cases b <;> rfl
  rw [this]
  exact k _ _ (.refl _ _) rfl
theorem op_isnotbool {a b : Bool} : Op2 C n (compareOp .IsNot) (.bool a) (.bool b) (.bool (a != b)) := by
  rintro A own s _ _ Q E o I ru rv k
  simp only [Rep] at ru rv
  subst ru; subst rv
  refine wpAny_isNot_plain rfl ?_
  have : (!(Value.bool a == Value.bool b)) = (a != b) := by cases a <;> cases b <;> rfl
  rw [this]
  exact k _ _ (.refl _ _) rfl
end
end Mine

-- part M3
namespace Mine
open PySem PySem.W PyProof.Rows

/-- where a walk began: the state, the own addresses, what may turn of it -/
structure Org where
  s : Shared
  own : List Addr
  ch : Addr → Prop
/-- the state of a walk through a body -/
structure Fw (C : Cx) (env : Env) (B : Org) (s : Shared) (own : List Addr) (ρ : Rho) (lst : Lst) : Prop where
  I : Inv C s own
  F : Frm C env s.heap own ρ lst
  x : XB B.ch B.s s
  new : ∀ c, (c = env.locals ∨ (∃ n, env.cells.lookup n = some c) ∨ ∃ ds, lst c = some ds) → B.s.heap.get? c = none ∨ B.ch c
  grow : ∀ a ∈ own, a ∈ B.own ∨ B.s.heap.get? a = none
  incl : ∀ a ∈ B.own, a ∈ own

theorem XB.into {ch : Addr → Prop} {s₀ s s' : Shared} {c : Addr} (x : XB ch s₀ s) (y : XB (one c) s s') (n : s₀.heap.get? c = none ∨ ch c) : XB ch s₀ s' :=
  ⟨fun b o hb e => y.keep b o (fun m => by
      have q : b = c := m
      subst q
      rcases n with n | n
      · rw [e] at n; cases n
      · exact hb n) (x.keep b o hb e), fun b o e => let ⟨o', e'⟩ := x.live b o e; y.live b o' e', y.os.trans x.os, fun i v e => y.gens i v (x.gens i v e), fun h => y.bare (x.bare h)⟩

section
variable {C : Cx} {env : Env} {B : Org} {own : List Addr} {s s' : Shared} {ρ : Rho} {lst : Lst}

theorem Fw.x0 (W : Fw C env B s own ρ lst) (x : XB no s s') : Fw C env B s' own ρ lst :=
  ⟨W.I.x0 x, W.F.x0 x, W.x.trans x.nil, W.new, W.grow, W.incl⟩

theorem ns_ne_list {h : Heap} {a b : Addr} {m : Str → Option Value} {vs : Array Value} (n : h.Ns a m) (l : h.IsList b vs) : b ≠ a := by
  rintro rfl
  obtain ⟨o, es, ep, ho, hd, _⟩ := n
  obtain ⟨o', ho', _, k, hd'⟩ := l
  rw [ho] at ho'; cases ho'; rw [hd] at hd'; cases hd'
theorem cell_ne_list {h : Heap} {a b : Addr} {v : Option Value} {vs : Array Value} (n : h.IsCell a v) (l : h.IsList b vs) : b ≠ a := by
  rintro rfl
  obtain ⟨o, ho, hd⟩ := n
  obtain ⟨o', ho', _, k, hd'⟩ := l
  rw [ho] at ho'; cases ho'; rw [hd] at hd'; cases hd'

theorem sameBut_keep {h h' : Heap} {a : Addr} {own : List Addr} (x : Heap.SameBut a h h') (m : a ∈ own) : ∀ b o, b ∉ own → h.get? b = some o → h'.get? b = some o :=
  fun b o hb e => (x.2 b (fun q => hb (q ▸ m))).trans e
theorem Rep.sameBut {h h' : Heap} {a : Addr} {d : D} {v : Value} (r : Rep C h own v d) (x : Heap.SameBut a h h') (m : a ∈ own) : Rep C h' own v d := r.move d (sameBut_keep x m) fun _ q => .inl q
theorem RepL.sameBut {h h' : Heap} {a : Addr} {d : List D} {v : List Value} (r : RepL C h own v d) (x : Heap.SameBut a h h') (m : a ∈ own) : RepL C h' own v d := r.move d (sameBut_keep x m) fun _ q => .inl q
theorem Sp.Is.sameBut {h h' : Heap} {a : Addr} {p : Sp} {v : Value} (r : p.Is C h own v) (x : Heap.SameBut a h h') (m : a ∈ own) (hp : ∀ b its, h.PlainList b its → ∃ its', h'.PlainList b its') : p.Is C h' own v := by
  cases p with
  | cl d => exact Rep.sameBut (d := d) r x m
  | «at» b => exact ⟨r.1, r.2.1, let ⟨i, q⟩ := r.2.2; hp b i q⟩
  | raw u => exact r
theorem plain_ns {h h' : Heap} {a : Addr} {m : Str → Option Value} (n : h.Ns a m) (x : Heap.SameBut a h h') : ∀ b its, h.PlainList b its → ∃ its', h'.PlainList b its' :=
  fun b its q => ⟨its, q.at fun o e => (x.2 b (ns_ne_list n q.isList)).trans e⟩
theorem plain_cell {h h' : Heap} {a : Addr} {v : Option Value} (n : h.IsCell a v) (x : Heap.SameBut a h h') : ∀ b its, h.PlainList b its → ∃ its', h'.PlainList b its' :=
  fun b its q => ⟨its, q.at fun o e => (x.2 b (cell_ne_list n q.isList)).trans e⟩

/-- a name is stored: a local -/
theorem Frm.setLoc {h h' : Heap} (F : Frm C env h own ρ lst) {x : Str} {v : Value} {p : Sp} (hx : env.kindOf x = some .local) (hp : p.Is C h own v) {m : Str → Option Value} (hm : h.Ns env.locals m)
    (n : h'.Ns env.locals (fun y => if y = x then some v else m y)) (sb : Heap.SameBut env.locals h h') : Frm C env h' own (ρ.set x p) lst where
  kind := F.kind
  glob := F.glob
  bui := F.bui
  loc := ⟨_, n⟩
  cel := fun n' c e => let ⟨u, z⟩ := F.cel n' c e; ⟨u, z.sameBut sb (F.ne n' c e)⟩
  apart := F.apart
  ne := F.ne
  lown := F.lown
  cown := F.cown
  get := fun y q e => by
    unfold Rho.set at e
    by_cases hy : y = x
    · subst hy
      rw [if_pos rfl] at e
      cases e
      exact ⟨v, .inl ⟨hx, _, n, by simp⟩, hp.sameBut sb F.lown (plain_ns hm sb)⟩
    · rw [if_neg hy] at e
      obtain ⟨u, r, z⟩ := F.get y q e
      refine ⟨u, ?_, z.sameBut sb F.lown (plain_ns hm sb)⟩
      rcases r with ⟨a, m', b, c⟩ | ⟨a, c, b, d⟩
      · refine .inl ⟨a, _, n, ?_⟩
        obtain ⟨o1, e1, p1, h1, d1, k1, f1⟩ := b
        obtain ⟨o2, e2, p2, h2, d2, k2, f2⟩ := hm
        rw [h1] at h2; cases h2
        rw [d1] at d2; cases d2
        simp only [hy, if_false]
        rw [← f2 y, f1 y, c]
      · exact .inr ⟨a, c, b, d.sameBut sb (F.ne y c b)⟩
  lst := fun a ds e => by
    obtain ⟨m', vs, l, r⟩ := F.lst a ds e
    exact ⟨m', vs, l.at fun o q => (sb.2 a (ns_ne_list hm l.isList)).trans q, r.sameBut sb F.lown⟩

theorem Frm.setCell {h h' : Heap} (F : Frm C env h own ρ lst) {x : Str} {c : Addr} {v : Value} {p : Sp} (hx : env.kindOf x = some .cell) (hc : env.cells.lookup x = some c) (hp : p.Is C h own v)
    (n : h'.IsCell c (some v)) (sb : Heap.SameBut c h h') : Frm C env h' own (ρ.set x p) lst where
  kind := F.kind
  glob := F.glob
  bui := F.bui
  loc := let ⟨m, z⟩ := F.loc; ⟨m, z.sameBut sb (Ne.symm (F.ne x c hc))⟩
  cel := fun n' c' e => by
    by_cases q : c' = c
    · exact ⟨_, q ▸ n⟩
    · obtain ⟨u, z⟩ := F.cel n' c' e
      exact ⟨u, z.sameBut sb q⟩
  apart := F.apart
  ne := F.ne
  lown := F.lown
  cown := F.cown
  get := fun y q e => by
    have hm := F.cown x c hc
    obtain ⟨cv, hcv⟩ := F.cel x c hc
    unfold Rho.set at e
    by_cases hy : y = x
    · subst hy
      rw [if_pos rfl] at e
      cases e
      exact ⟨v, .inr ⟨.inl hx, c, hc, n⟩, hp.sameBut sb hm (plain_cell hcv sb)⟩
    · rw [if_neg hy] at e
      obtain ⟨u, r, z⟩ := F.get y q e
      refine ⟨u, ?_, z.sameBut sb hm (plain_cell hcv sb)⟩
      rcases r with ⟨a, m', b, c'⟩ | ⟨a, c', b, d⟩
      · exact .inl ⟨a, m', b.sameBut sb (Ne.symm (F.ne x c hc)), c'⟩
      · exact .inr ⟨a, c', b, d.sameBut sb (fun q => hy (F.apart y x c' b (q ▸ hc)))⟩
  lst := fun a ds e => by
    obtain ⟨m', vs, l, r⟩ := F.lst a ds e
    obtain ⟨u, z⟩ := F.cel x c hc
    exact ⟨m', vs, l.at fun o q => (sb.2 a (cell_ne_list z l.isList)).trans q, r.sameBut sb (F.cown x c hc)⟩

def Stores (env : Env) (x : Str) : Prop := env.kindOf x = some .local ∨ (env.kindOf x = some .cell ∧ (env.cells.lookup x).isSome = true)

theorem store_name {M : Model} {A : Around} {E : Value → Shared → Prop} {x : Str} {v : Value} {p : Sp} {Q : Unit → Shared → Prop} (W : Fw C env B s own ρ lst) (hx : Stores env x) (hp : p.Is C s.heap own v)
    (k : ∀ s', Fw C env B s' own (ρ.set x p) lst → Q () s') : wpAny M A (storeName env x v) Q E s := by
  rcases hx with hx | ⟨hx, hc⟩
  · obtain ⟨m, hm⟩ := W.F.loc
    refine wpAny_storeName_local hx hm (fun h' hn hs => k _ ?_) (by rw [W.F.kind]; rfl)
    have y : XB (one env.locals) s { s with heap := h', toks := s.toks + 1 } := .sameBut hs (let ⟨o, _, _, e, _⟩ := hn; ⟨o, e⟩)
    exact ⟨W.I.xb y (by rintro a rfl; exact W.F.lown), W.F.setLoc hx hp hm hn hs, W.x.into y (W.new _ (.inl rfl)), W.new, W.grow, W.incl⟩
  · obtain ⟨c, hc⟩ := Option.isSome_iff_exists.mp hc
    obtain ⟨u, hu⟩ := W.F.cel x c hc
    refine wpAny_storeName_cell W.F.kind hx hc hu fun h' hn hs => k _ ?_
    have y : XB (one c) s { s with heap := h' } := .sameBut (tk := s.toks) hs (let ⟨o, e, _⟩ := hn; ⟨o, e⟩)
    exact ⟨W.I.xb y (by rintro a rfl; exact W.F.cown x _ hc), W.F.setCell hx hc hp hn hs, W.x.into y (W.new _ (.inr (.inl ⟨x, hc⟩))), W.new, W.grow, W.incl⟩
end

section
variable {C : Cx} {n : Nat} {A : Around} {env : Env} {B : Org} {own : List Addr} {s : Shared} {ρ : Rho} {lst : Lst} {rest : List Stmt} {Q : Flow → Shared → Prop} {E : Value → Shared → Prop}

theorem PT.use {t : Expr} {c : Bool} (ht : PT C n env ρ t c) (o : Ok n A) (W : Fw C env B s own ρ lst) {Q' : Bool → Shared → Prop} {E' : Value → Shared → Prop} (k : ∀ s', XB no s s' → Q' c s') : wpAny C.M A (isTrue t env (eval t env)) Q' E' s :=
  ht A own lst s _ _ o W.I W.F k
theorem PE.use {t : Expr} {d : D} (ht : PE C n env ρ t d) (o : Ok n A) (W : Fw C env B s own ρ lst) {Q' : Value → Shared → Prop} {E' : Value → Shared → Prop} (k : ∀ v s', XB no s s' → Rep C s'.heap own v d → Q' v s') : wpAny C.M A (eval t env) Q' E' s :=
  ht A own lst s _ _ o W.I W.F k
theorem st_nil (h : Q .next s) : wpAny C.M A (execs [] env) Q E s := wpAny_execs_nil h
theorem st_assign {x : Str} {px pos : Pos} {e : Expr} {d : D} (o : Ok n A) (W : Fw C env B s own ρ lst) (he : PE C n env ρ e d) (hx : Stores env x)
    (k : ∀ s', Fw C env B s' own (ρ.set x (.cl d)) lst → wpAny C.M A (execs rest env) Q E s') (hs : swapsWith e (some (.Name x px)) pos.line env = pure false := by rfl) :
    wpAny C.M A (execs (.Assign [.Name x px] e pos :: rest) env) Q E s :=
  wpAny_execs_cons (wpAny_Assign_Name (he A own lst s _ _ o W.I W.F fun v s₁ x₁ r => store_name (p := .cl d) (W.x0 x₁) hx r k) hs)
theorem st_if {t : Expr} {a b : List Stmt} {pos : Pos} {c : Bool} (o : Ok n A) (W : Fw C env B s own ρ lst) (ht : PT C n env ρ t c)
    (k : ∀ s', Fw C env B s' own ρ lst → wpAny C.M A (execs (if c = true then a else b) env) (fun f s' => match f with | .next => wpAny C.M A (execs rest env) Q E s' | f => Q f s') E s') :
    wpAny C.M A (execs (.If t a b pos :: rest) env) Q E s := by
  refine wpAny_execs_cons (wpAny_If (ht A own lst s _ _ o W.I W.F fun s₁ x₁ => ?_))
  have := k s₁ (W.x0 x₁)
  cases c <;> exact this
theorem st_no {t : Expr} {a : List Stmt} {pos : Pos} {c : Bool} (o : Ok n A) (W : Fw C env B s own ρ lst) (ht : PT C n env ρ t c) (hc : c = false)
    (k : ∀ s', Fw C env B s' own ρ lst → wpAny C.M A (execs rest env) Q E s') : wpAny C.M A (execs (.If t a [] pos :: rest) env) Q E s := by
  subst hc
  exact st_if o W ht fun s' W' => wpAny_execs_nil (k s' W')
theorem st_yes {t : Expr} {a b : List Stmt} {pos : Pos} {c : Bool} (o : Ok n A) (W : Fw C env B s own ρ lst) (ht : PT C n env ρ t c) (hc : c = true)
    (k : ∀ s', Fw C env B s' own ρ lst → wpAny C.M A (execs a env) (fun f s' => match f with | .next => wpAny C.M A (execs rest env) Q E s' | f => Q f s') E s') :
    wpAny C.M A (execs (.If t a b pos :: rest) env) Q E s := by
  subst hc
  exact st_if o W ht k
theorem st_else {t : Expr} {a b : List Stmt} {pos : Pos} {c : Bool} (o : Ok n A) (W : Fw C env B s own ρ lst) (ht : PT C n env ρ t c) (hc : c = false)
    (k : ∀ s', Fw C env B s' own ρ lst → wpAny C.M A (execs b env) (fun f s' => match f with | .next => wpAny C.M A (execs rest env) Q E s' | f => Q f s') E s') :
    wpAny C.M A (execs (.If t a b pos :: rest) env) Q E s := by
  subst hc
  exact st_if o W ht k
theorem st_return {e : Expr} {pos : Pos} {d : D} (o : Ok n A) (W : Fw C env B s own ρ lst) (he : PE C n env ρ e d) (k : ∀ v s', Fw C env B s' own ρ lst → Rep C s'.heap own v d → Q (.ret v) s') :
    wpAny C.M A (execs (.Return (some e) pos :: rest) env) Q E s :=
  wpAny_execs_cons (wpAny_Return_some (he A own lst s _ _ o W.I W.F fun v s₁ x₁ r => k v s₁ (W.x0 x₁) r))
/-- a list of the frame's own is handed back -/
theorem st_returnAt {x : Str} {px pos : Pos} {a : Addr} (W : Fw C env B s own ρ lst) (hx : ρ x = some (.at a)) (k : Q (.ret (.ref a)) s)
    (hd : (x == ("__debug__" : Str)) = false := by decide) (hc : (x == ("__classdict__" : Str)) = false := by decide) :
    wpAny C.M A (execs (.Return (some (.Name x px)) pos :: rest) env) Q E s := by
  obtain ⟨v, r, rfl, _⟩ := W.F.get x _ hx
  exact wpAny_execs_cons (wpAny_Return_some (wpAny_Name (r.load W.F.kind k hc) hd))

/-- a while, by what holds between its turns -/
theorem st_while {t : Expr} {body : List Stmt} {pos : Pos} (J : Nat → Shared → Prop) (m : Nat) (h : J m s)
    (turn : ∀ m s, J m s → ∃ c : Bool, (∀ (Q' : Bool → Shared → Prop) (E' : Value → Shared → Prop), (∀ s', XB no s s' → Q' c s') → wpAny C.M A (isTrue t env (eval t env)) Q' E' s) ∧
      ∀ s₂, XB no s s₂ → (c = true → wpAny C.M A (execs body env) (fun f s₃ => match f with
            | .next | .cont => ∃ m', m' < m ∧ J m' s₃
            | .brk => wpAny C.M A (execs rest env) Q E s₃
            | .ret v => Q (.ret v) s₃) (fun _ _ => False) s₂) ∧ (c = false → wpAny C.M A (execs rest env) Q E s₂)) :
    wpAny C.M A (execs (.While t body [] pos :: rest) env) Q E s := by
  refine wpAny_execs_cons (wpAny_While (codeAny_whileLoop J (fun m s hJ => ?_) m h))
  obtain ⟨c, h1, h2⟩ := turn m s hJ
  refine h1 _ _ fun s₂ x₂ => ?_
  cases c with
  | true => exact wpAny_mono ((h2 s₂ x₂).1 rfl) (fun f s₃ h₃ => by cases f <;> exact h₃) fun _ _ f => f.elim
  | false => exact wpAny_execs_nil ((h2 s₂ x₂).2 rfl)
end

/-- a def of the top -/
structure FnOK (C : Cx) (f : Addr) (fd : FuncData) (body : List Stmt) : Prop where
  «at» : ∃ oc od osl, C.K.lookup f = some ⟨oc, od, .func fd, osl⟩
  code : codeIn C.K fd.code fd.qualname = true
  body : fd.body = .stmts body
  glob : fd.globals = mainGlobals
  bui : fd.builtins = builtinsNs
  clos : fd.closure = []
  kind : fd.scope.kind = .function
  co : fd.scope.isCoroutine = false

inductive BindsAre (C : Cx) (h : Heap) (own : List Addr) : List (Str × Value) → List (Str × Sp) → Prop where
  | nil : BindsAre C h own [] []
  | cons {x : Str} {v : Value} {p : Sp} {bs ps} : p.Is C h own v → BindsAre C h own bs ps → BindsAre C h own ((x, v) :: bs) ((x, p) :: ps)

def rhoOf : List (Str × Sp) → Rho → Rho
  | [], ρ => ρ
  | (x, p) :: r, ρ => rhoOf r (ρ.set x p)
def noR : Rho := fun _ => none
def bindM : List (Str × Value) → (Str → Option Value) → Str → Option Value
  | [], m => m
  | (x, v) :: r, m => bindM r (fun y => if y = x then some v else m y)
theorem lookup_append {α : Type} : ∀ (l r : List (Str × α)) (x : Str), (l ++ r).lookup x = (l.lookup x).or (r.lookup x)
  | [], _, _ => by simp
  | (y, v) :: l, r, x => by
    rw [List.cons_append, List.lookup_cons, List.lookup_cons]
    cases x == y with
    | true => rfl
    | false => exact lookup_append l r x
theorem bindM_eq : ∀ (bs : List (Str × Value)) (m : Str → Option Value) (x : Str), bindM bs m x = (bs.reverse.lookup x).or (m x)
  | [], m, x => by simp [bindM]
  | (y, v) :: r, m, x => by
    unfold bindM
    rw [bindM_eq r, List.reverse_cons, lookup_append]
    cases q : r.reverse.lookup x with
    | some u => simp
    | none =>
      simp only [Option.none_or, List.lookup_cons, List.lookup_nil]
      by_cases hy : x = y
      · subst hy; simp
      · have : (x == y) = false := by simpa using hy
        simp [this, hy]
theorem binds_get {C : Cx} {h : Heap} {own : List Addr} : ∀ {bs : List (Str × Value)} {ps : List (Str × Sp)}, BindsAre C h own bs ps → ∀ (ρ : Rho) (m : Str → Option Value),
    (∀ x p, ρ x = some p → ∃ v, m x = some v ∧ p.Is C h own v) → ∀ x p, rhoOf ps ρ x = some p → ∃ v, bindM bs m x = some v ∧ p.Is C h own v
  | _, _, .nil, _, _, H, x, p, e => H x p e
  | _, _, .cons (x := y) (v := v) (p := q) hq r, ρ, m, H, x, p, e => by
    refine binds_get r _ _ (fun z p' e' => ?_) x p e
    unfold Rho.set at e'
    by_cases hz : z = y
    · rw [if_pos hz] at e'; cases e'
      exact ⟨v, by simp [hz], hq⟩
    · rw [if_neg hz] at e'
      obtain ⟨u, a, b⟩ := H z p' e'
      exact ⟨u, by simp [hz, a], b⟩
theorem rho_names {names : Str → Prop} : ∀ {ps : List (Str × Sp)} {ρ : Rho}, (∀ x p, ρ x = some p → names x) → (∀ q ∈ ps, names q.1) → ∀ x p, rhoOf ps ρ x = some p → names x
  | [], _, H, _, x, p, e => H x p e
  | (y, q) :: r, ρ, H, N, x, p, e => by
    refine rho_names (fun z p' e' => ?_) (fun q' m => N q' (List.mem_cons_of_mem _ m)) x p e
    unfold Rho.set at e'
    by_cases hz : z = y
    · rw [hz]; exact N (y, q) List.mem_cons_self
    · rw [if_neg hz] at e'; exact H z p' e'

section
variable {C : Cx} {n : Nat} {A : Around} {own : List Addr} {s : Shared} {R : Result → Shared → Prop}

/-- a def without cells is called -/
theorem enter {f : Addr} {fd : FuncData} {body : List Stmt} {args : Args} {binds : List (Str × Value)} {ps : List (Str × Sp)} {ch : Addr → Prop} {lst : Lst} (o : Ok (n + 1) A) (I : Inv C s own) (fn : FnOK C f fd body)
    (hb : BindsTo s fd args binds) (hloc : (ps.all fun x => fd.scope.names.lookup x.1 == some .local) = true) (hcell : (fd.scope.names.all fun x => !(x.2 == NameKind.cell)) = true)
    (hps : BindsAre C s.heap own binds ps) (hl : ∀ a ds, lst a = some ds → a ∈ own ∧ ch a ∧ ∃ vs, s.heap.PlainList a (List.toArray vs) ∧ RepL C s.heap own vs ds)
    (k : ∀ s₁ env, env.scope = fd.scope → s.heap.get? env.locals = none → env.cells = [] → Fw C env ⟨s, own, ch⟩ s₁ (env.locals :: own) (rhoOf ps noR) lst →
      wpAny C.M (A.deeper env) (execs body env) (fun fl s' => R (.ok (.ret (match fl with | .ret v => v | _ => .none))) s') (fun _ _ => False) s₁)
    (hgen : fd.scope.isGenerator = false) : codeAny C.M A (.call (.ref f) args) R s := by
  obtain ⟨oc, od, osl, hat⟩ := fn.at
  have ho := I.K _ _ hat
  have hn : binds.map (·.1) = ps.map (·.1) := by
    clear hloc hb k hl
    induction hps with
    | nil => rfl
    | cons _ _ ih => simp [ih]
  have hl2 : ∀ x ∈ binds, fd.scope.names.lookup x.1 = some .local := fun x hx => by
    have : x.1 ∈ ps.map (·.1) := hn ▸ List.mem_map_of_mem hx
    obtain ⟨q, hq, e⟩ := List.mem_map.mp this
    have := List.all_eq_true.mp hloc q hq
    rw [← e]; simpa using this
  refine codeAny_call_def o.room ho rfl I.lim (codeRec_of I.K fn.code) fn.body hb (fun x hx => by have := List.all_eq_true.mp hcell x hx; simpa using this) hl2 (fun h₀ hns hk => ?_) fn.co hgen fn.kind
  have L : ∃ o, h₀.get? s.heap.objs.size = some o := let ⟨o, _, _, e, _⟩ := hns; ⟨o, e⟩
  have x1 : XB no s { s with heap := h₀, toks := s.toks + binds.length } := .of_heap hk
  refine wpAny_mono (k _ (callEnv fd s.heap.objs.size f) rfl get_size fn.clos ⟨I.cons get_size x1 L, ?_, x1.nil, ?_, ?_, fun a m => List.mem_cons_of_mem _ m⟩) (fun _ _ q => q) fun _ _ q => q.elim
  · have fr : ∀ a ∈ [s.heap.objs.size], s.heap.get? a = none := fun a m => by rw [List.mem_singleton.mp m]; exact get_size
    refine ⟨fn.kind, fn.glob, fn.bui, ⟨_, hns⟩, ?_, ?_, ?_, List.mem_cons_self, ?_, ?_, ?_⟩
    · intro n c e; have : fd.closure.lookup n = some c := e; rw [fn.clos] at this; cases this
    · intro n n' c e; have : fd.closure.lookup n = some c := e; rw [fn.clos] at this; cases this
    · intro n c e; have : fd.closure.lookup n = some c := e; rw [fn.clos] at this; cases this
    · intro n c e; have : fd.closure.lookup n = some c := e; rw [fn.clos] at this; cases this
    · intro x p e
      obtain ⟨v, a, b⟩ := binds_get hps noR (fun _ => none) (fun _ _ e => by cases e) x p e
      rw [bindM_eq] at a
      have hx : fd.scope.names.lookup x = some .local := rho_names (names := fun x => fd.scope.names.lookup x = some .local) (ρ := noR) (fun _ _ e => by cases e) (fun q m => by
        have := List.all_eq_true.mp hloc q m; simpa using this) x p e
      refine ⟨v, .inl ⟨hx, _, hns, by simpa using a⟩, ?_⟩
      cases p with
      | cl d => exact Rep.keeps (Rep.fresh (d := d) (l := [s.heap.objs.size]) b fr) hk
      | «at» a' => exact ⟨b.1, List.mem_cons_of_mem _ b.2.1, let ⟨i, q⟩ := b.2.2; ⟨i, q.at fun o e => hk _ o e⟩⟩
      | raw u => exact b
    · intro a ds e
      obtain ⟨m, _, vs, l, r⟩ := hl a ds e
      exact ⟨List.mem_cons_of_mem _ m, vs, l.at fun o q => hk _ o q, (r.fresh (l := [s.heap.objs.size]) fr).keeps hk⟩
  · rintro c (rfl | ⟨n, e⟩ | ⟨ds, e⟩)
    · exact .inl get_size
    · have : fd.closure.lookup n = some c := e; rw [fn.clos] at this; cases this
    · exact .inr (hl c ds e).2.1
  · intro a m
    rcases List.mem_cons.mp m with rfl | m
    · exact .inr get_size
    · exact .inl m
end
end Mine

-- part M4
namespace Mine
open PySem PySem.W PyProof.Rows

/-- a global name -/
def GN (C : Cx) (env : Env) (x : Str) (v : Value) : Prop := env.kindOf x = some .globalImplicit ∧ (C.mg x = some v ∨ (C.mg x = none ∧ C.mb x = some v))

/-- a call of a value -/
def OpN (C : Cx) (n : Nat) (f : Value) (ds : List D) (d : D) : Prop :=
  ∀ (A : Around) (own : List Addr) (s : Shared) (vs : List Value) (Q E : Value → Shared → Prop), Ok n A → Inv C s own → RepL C s.heap own vs ds →
    (∀ r s', XB no s s' → Rep C s'.heap own r d → Q r s') → wpAny C.M A (call f vs) Q E s

/-- items of a display, arguments of a call -/
def PEL (C : Cx) (n : Nat) (env : Env) (ρ : Rho) (es : List Expr) (ds : List D) : Prop :=
  ∀ (pos : Pos) (A : Around) (own : List Addr) (lst : Lst) (s : Shared) (Q : List Value → Shared → Prop) (E : Value → Shared → Prop), Ok n A → Inv C s own → Frm C env s.heap own ρ lst →
    (∀ vs s', XB no s s' → RepL C s'.heap own vs ds → Q vs s') → wpAny C.M A (spliced (backTo pos (starEach es env))) Q E s

section
variable {C : Cx} {n : Nat} {env : Env} {ρ : Rho}

theorem OpN.le {m : Nat} {f : Value} {ds : List D} {d : D} (h : OpN C n f ds d) (l : n ≤ m) : OpN C m f ds d := fun A own s vs Q E o => h A own s vs Q E (o.le l)
theorem pel_nil : PEL C n env ρ [] [] := by
  intro pos A own lst s Q E o I F k
  exact wpAny_items_nil (k _ _ (.refl _ _) rfl)
theorem pel_cons {e : Expr} {es : List Expr} {d : D} {ds : List D} (h : PE C n env ρ e d) (t : PEL C n env ρ es ds) (he : starEach (e :: es) env = (false, eval e env) :: starEach es env := by rfl) : PEL C n env ρ (e :: es) (d :: ds) := by
  intro pos A own lst s Q E o I F k
  refine wpAny_items_cons (h A own lst s _ _ o I F fun v s₁ x₁ r₁ => t pos A own lst s₁ _ _ o (I.x0 x₁) (F.x0 x₁) fun vs s₂ x₂ r₂ => k _ _ (x₁.trans x₂) ?_) he
  simp only [RepL]
  exact ⟨v, vs, rfl, r₁.keeps x₂.keeps, r₂⟩

theorem gn_eval {x : Str} {p : Pos} {v : Value} {A : Around} {own : List Addr} {lst : Lst} {s : Shared} {Q E : Value → Shared → Prop} (g : GN C env x v) (I : Inv C s own) (F : Frm C env s.heap own ρ lst) (k : Q v s)
    (hd : (x == ("__debug__" : Str)) = false := by decide) : wpAny C.M A (eval (.Name x p) env) Q E s := by
  refine Calls.Name_function_global F.kind g.1 ?_ hd
  have hg : s.heap.Ns env.globals C.mg := by rw [F.glob]; exact I.g
  rcases g.2 with m | ⟨m, b⟩
  · exact Calls.loadGlobal_global hg m k
  · exact Calls.loadGlobal_builtin hg m (by rw [F.bui]; exact I.b) b k

theorem pe_call {x : Str} {p pos : Pos} {e : Expr} {es : List Expr} {f : Value} {ds : List D} {d : D} (g : GN C env x f) (ha : PEL C n env ρ (e :: es) ds) (op : OpN C n f ds d)
    (hf : (∃ id, f = .builtin id) ∨ (∃ T, f = .type T) ∨ ∃ a o fd, f = .ref a ∧ C.K.lookup a = some o ∧ o.data = .func fd)
    (hd : (x == ("__debug__" : Str)) = false := by decide)
    (he : starEach (e :: es) env = (false, eval e env) :: starEach es env := by rfl) (hp : (backTo pos (starEach es env)).any (·.1) = false := by rfl) :
    PE C n env ρ (.Call (.Name x p) (e :: es) [] pos) d := by
  intro A own lst s Q E o I F k
  refine wpAny_Call_NameR (gn_eval g I F ?_ hd)
  have step : wpAny C.M A (spliced (backTo pos (starEach (e :: es) env))) (fun vs s₁ => XB no s s₁ ∧ wpAny C.M A (call f vs) Q E s₁) E s :=
    ha pos A own lst s _ _ o I F fun vs s₁ x₁ r₁ => ⟨x₁, op A own s₁ vs _ _ o (I.x0 x₁) r₁ fun r s₂ x₂ r₂ => k r s₂ (x₁.trans x₂) r₂⟩
  rcases hf with ⟨id, rfl⟩ | ⟨T, rfl⟩ | ⟨a, ob, fd, rfl, ha', hd'⟩
  · refine Calls.callWith_builtin (by rw [he]; show (false || _) = false; rw [Bool.false_or]; exact hp) ?_
    rw [he] at step ⊢
    exact Calls.evalArgs_plain (wpAny_mono step (fun vs s₁ h => h.2) fun _ _ h => h)
  · exact Pv.callWith_type1 (wpAny_mono step (fun vs s₁ h => h.2) fun _ _ h => h) he hp
  · refine Calls.callWith_function (o := ob) (fd := fd) ?_
    rw [he] at step ⊢
    exact Calls.evalArgs_plain (wpAny_mono step (fun vs s₁ h => ⟨⟨(I.x0 h.1).K _ _ ha', hd'⟩, h.2⟩) fun _ _ h => h)

-- built-in calls
theorem opn_len {ds : List D} (h : ds.length < 2 ^ 62) : OpN C n (.builtin "len") [.list ds] (.int ds.length) := by
  intro A own s vs Q E o I r k
  simp only [RepL, Rep] at r
  obtain ⟨_, _, rfl, ⟨a, us, rfl, ha, l, ru⟩, rfl⟩ := r
  have hs : us.toArray.size = ds.length := by rw [List.size_toArray, ru.length]
  refine Calls.call_len_list l (by rw [hs]; omega) ?_
  rw [hs]
  exact k _ _ (.tok _ _ _) ⟨_, rfl⟩

theorem size_one {a b : Int} {m : Nat} (h : m = (b - a).toNat) : Builtin.Range.rangeSize a b 1 = (m : Int) := by
  rw [rangeSize_one]
  split <;> omega
theorem opn_range1 {b : Int} {m : Nat} (hb : -(2 ^ 62) ≤ b) (hb' : b < 2 ^ 62) (hm : m = b.toNat) : OpN C n (.type "range") [.int b] (.rng 0 1 m) := by
  intro A own s vs Q E o I r k
  simp only [RepL, Rep] at r
  obtain ⟨_, _, rfl, ⟨t, rfl⟩, rfl⟩ := r
  refine call_range_1 (k _ _ (.push _ _ _ _) ?_)
  simp only [Rep]
  exact ⟨_, b, _, _, _, rfl, I.notOwn get_size, .new _ _ _ _ _ _ _, small_one (by decide) (by decide) hb hb', size_one (by omega)⟩
theorem opn_range2 {a b : Int} {m : Nat} (ha : -(2 ^ 62) ≤ a) (ha' : a < 2 ^ 62) (hb : -(2 ^ 62) ≤ b) (hb' : b < 2 ^ 62) (hm : m = (b - a).toNat) : OpN C n (.type "range") [.int a, .int b] (.rng a 1 m) := by
  intro A own s vs Q E o I r k
  simp only [RepL, Rep] at r
  obtain ⟨_, _, rfl, ⟨t, rfl⟩, _, _, rfl, ⟨u, rfl⟩, rfl⟩ := r
  refine call_range_2 (k _ _ (.push _ _ _ _) ?_)
  simp only [Rep]
  exact ⟨_, b, _, _, _, rfl, I.notOwn get_size, .new _ _ _ _ _ _ _, small_one ha ha' hb hb', size_one hm⟩

/-- an item of a list -/
theorem pe_item {value slice : Expr} {pos : Pos} {ds : List D} {i : Int} {d : D} (hv : PE C n env ρ value (.list ds)) (hi : PE C n env ρ slice (.int i)) (h0 : 0 ≤ i) (hd : ds[i.toNat]? = some d) (hb : i < 2 ^ 62)
    (hs : ∀ a k u, subscripted slice false (.ref a) (.int k u) = operate [.ref a, .int k u] (getItem (.ref a) (.int k u)) := by intro _ _ _; with_unfolding_all rfl) :
    PE C n env ρ (.Subscript value slice pos) d := by
  intro A own lst s Q E o I F k
  refine PyProof.Rows.Subscript_ (hv A own lst s _ _ o I F fun v s₁ x₁ r₁ => hi A own lst s₁ _ _ o (I.x0 x₁) (F.x0 x₁) fun u s₂ x₂ r₂ => ?_)
  have r₁ := r₁.keeps x₂.keeps
  simp only [Rep] at r₁ r₂
  obtain ⟨a, us, rfl, ha, l, ru⟩ := r₁
  obtain ⟨t, rfl⟩ := r₂
  obtain ⟨w, hw, rw⟩ := ru.get _ _ hd
  exact tail_any l.typeIs slot_list_getitem.lookup (wpAny_getItem_list (x := w) l h0 (by omega) (by simpa using hw) (k _ _ (x₁.trans x₂) rw)) (hs _ _ _)
end
end Mine

-- part M5
namespace Mine
open PySem PySem.W PyProof.Rows

def stmtAt (i : Nat) : Option Stmt := PySem.Challenge.pw_rs0170_01.main.body[i]?
def bodyAt (i : Nat) : List Stmt := match stmtAt i with
  | some (.FunctionDef _ _ b _ _ _ _ _ _ _) => b
  | _ => []
def scopeAt (i : Nat) : Scope := match stmtAt i with
  | some (.FunctionDef _ _ _ _ _ _ s _ _ _) => s
  | _ => default
/-- a def of the text, at its place in the top -/
structure FnAt (C : Cx) (i : Nat) (f : Addr) (fd : FuncData) : Prop where
  ok : FnOK C f fd (bodyAt i)
  scope : fd.scope = scopeAt i

theorem ko {env : Env} {fd : FuncData} {sc : Scope} {x : Str} {k : NameKind} (h : env.scope = fd.scope) (h' : fd.scope = sc) (e : sc.names.lookup x = some k) : env.kindOf x = some k := by
  unfold Env.kindOf; rw [h, h', e]
theorem Rho.same {ρ : Rho} {x : Str} {p : Sp} : (ρ.set x p) x = some p := by simp [Rho.set]
theorem Rho.ne {ρ : Rho} {x y : Str} {p : Sp} {q : Option Sp} (h : (y == x) = false) (e : ρ y = q) : (ρ.set x p) y = q := by
  unfold Rho.set
  rw [if_neg (by simpa using h)]; exact e

abbrev K (x : String) : Str := Str.ofString x

/-- how many are below x -/
def below (l : List Int) (x : Int) : Nat := (l.filter (fun y => decide (y < x))).length
def upto (l : List Int) (x : Int) : Nat := (l.filter (fun y => decide (y ≤ x))).length

theorem count_split {l : List Int} {p : Int → Bool} {k : Nat} (hk : k ≤ l.length) (h1 : ∀ i, i < k → p (l.getD i 0) = true) (h2 : ∀ i, k ≤ i → i < l.length → p (l.getD i 0) = false) : (l.filter p).length = k := by
  induction l generalizing k with
  | nil => simp at hk; simp [hk]
  | cons a l ih =>
    cases k with
    | zero =>
      have := h2 0 (Nat.le_refl _) (by simp)
      simp at this
      rw [List.filter_cons_of_neg (by simp [this])]
      exact ih (Nat.zero_le _) (fun i hi => absurd hi (Nat.not_lt_zero _)) fun i _ hl => by simpa using h2 (i + 1) (Nat.zero_le _) (by simp; omega)
    | succ k =>
      have := h1 0 (Nat.succ_pos _)
      simp at this
      rw [List.filter_cons_of_pos this, List.length_cons]
      congr 1
      exact ih (by simpa using hk) (fun i hi => by simpa using h1 (i + 1) (by omega)) fun i hi hl => by simpa using h2 (i + 1) (by omega) (by simp; omega)

theorem binds_peek {F : Frag} {s : Shared} {fd : FuncData} {args : Args} {bs : List (Str × Value)} (X : F.In s.heap) (e : ∀ S, peek F S (bindArgs fd args) = some bs) : BindsTo s fd args bs :=
  fun M _ _ _ q => (Looks.of_peek (M := M) X (e ⟨M.prog, M.w.params⟩)).here q

structure BFacts (C : Cx) (bl br : Addr) (fl fr : FuncData) : Prop where
  hbl : FnAt C 4 bl fl
  hbr : FnAt C 3 br fr
  len : C.mg (K "len") = none
  len' : C.mb (K "len") = some (.builtin "len")
  bindl : ∃ t, ∀ u v S, peek C.K S (bindArgs fl ⟨[u, v], []⟩) = some [(K "a", u), (K "x", v), (K "lo", .int 0 t), (K "hi", .none), (K "key", .none)]
  bindr : ∃ t, ∀ u v S, peek C.K S (bindArgs fr ⟨[u, v], []⟩) = some [(K "a", u), (K "x", v), (K "lo", .int 0 t), (K "hi", .none), (K "key", .none)]
  bindr4 : ∀ u v a b S, peek C.K S (bindArgs fr ⟨[u, v, a, b], []⟩) = some [(K "a", u), (K "x", v), (K "lo", a), (K "hi", b), (K "key", .none)]

theorem mid_facts {lo hi : Int} (h0 : 0 ≤ lo) (h : lo < hi) : lo ≤ (lo + hi).fdiv 2 ∧ (lo + hi).fdiv 2 < hi := by
  rw [Int.fdiv_eq_ediv_of_nonneg _ (by decide)]
  omega

local macro_rules | `(tactic| walk_at "nm") => `(tactic| repeat' (first | assumption | exact Rho.same | refine Rho.ne (by decide) ?_))
local macro_rules | `(tactic| walk_at "pe") => `(tactic| repeat' (first
  | exact pe_int | exact pe_none | exact pe_bool | exact pe_str
  | (refine' pe_name ?hn ; (case hn => (walk_at "nm"; done)))
  | refine' pe_bin ?_ ?_ op_add | refine' pe_bin ?_ ?_ op_sub | refine' pt_cmp ?_ ?_ op_lt | refine' pt_cmp ?_ ?_ (op_isnone _ rfl)))
local macro_rules | `(tactic| walk_at "no") => `(tactic| (refine' st_no ?o ?W ?ht ?hc ?k; (case o => assumption); (case W => assumption); (case ht => (walk_at "pe"; done)); (case hc => first | rfl | decide | assumption)))
local macro_rules | `(tactic| walk_at "yes") => `(tactic| (refine' st_yes ?o ?W ?ht ?hc ?k; (case o => assumption); (case W => assumption); (case ht => (walk_at "pe"; done)); (case hc => first | rfl | decide | assumption)))
local macro_rules | `(tactic| walk_at "asg") => `(tactic| (refine' st_assign ?o ?W ?he ?hx ?k; (case o => assumption); (case W => assumption); (case he => (walk_at "pe"; done)); (case hx => (rename ∀ x, _ → Stores _ x => hst; exact hst _ rfl))))

section
variable {C : Cx} {bl br : Addr} {fl fr : FuncData}
theorem bl_spec (X : BFacts C bl br fl fr) {l : List Int} {x : Int} (hs : l.Pairwise (· ≤ ·)) (hn : l.length < 2 ^ 24) : OpN C 3 (.ref bl) [.il l, .int x] (.int (below l x)) := by
  intro A own s vs Q E o I r k
  obtain ⟨t0, hb⟩ := X.bindl
  have ⟨u, v, hvs, ru, rv⟩ : ∃ u v, vs = [u, v] ∧ Rep C s.heap own u (.il l) ∧ Rep C s.heap own v (.int x) := by
    simp only [RepL] at r
    obtain ⟨u, _, rfl, ru, v, _, rfl, rv, rfl⟩ := r
    exact ⟨u, v, rfl, ru, rv⟩
  subst hvs
  refine wpAny_call (enter (ps := [(K "a", .cl (.il l)), (K "x", .cl (.int x)), (K "lo", .cl (.int 0)), (K "hi", .cl .none), (K "key", .cl .none)]) (ch := no) (lst := noL) o I X.hbl.ok (binds_peek I.K (hb u v)) (by rw [X.hbl.scope]; rfl) (by rw [X.hbl.scope]; rfl)
    (.cons ru (.cons rv (.cons ⟨_, rfl⟩ (.cons rfl (.cons rfl .nil))))) (fun _ _ e => by cases e) (fun s₁ env he hL hc W => ?_) (by rw [X.hbl.scope]; rfl))
  simp only [rhoOf] at W
  have o2 : Ok 2 (A.deeper env) := o.deeper
  have st : ∀ x, (scopeAt 4).names.lookup x = some .local → Stores env x := fun x e => .inl (ko he X.hbl.scope e)
  walk_at "no"; intro s₂ W
  walk_at "yes"; intro s₃ W
  refine st_assign o2 W (pe_call ⟨ko he X.hbl.scope rfl, .inr ⟨X.len, X.len'⟩⟩ (pel_cons (pe_name (d := .il l) (by walk_at "nm")) pel_nil) (opn_len (by simp; omega)) (.inl ⟨_, rfl⟩)) (st _ rfl) (fun s₄ W => ?_)
  refine st_nil ?_
  walk_at "yes"; intro s₅ W
  rw [List.length_map] at W
  refine st_while (fun m s' => ∃ ρ lo hi, Fw C env ⟨s, own, no⟩ s' (env.locals :: own) ρ noL ∧ ρ (K "a") = some (.cl (.il l)) ∧ ρ (K "x") = some (.cl (.int x)) ∧ ρ (K "lo") = some (.cl (.int lo)) ∧ ρ (K "hi") = some (.cl (.int hi)) ∧
      0 ≤ lo ∧ lo ≤ hi ∧ hi ≤ l.length ∧ (∀ i : Nat, (i : Int) < lo → l.getD i 0 < x) ∧ (∀ i : Nat, hi ≤ (i : Int) → i < l.length → ¬ l.getD i 0 < x) ∧ m = (hi - lo).toNat) _
    ⟨_, 0, l.length, W, by walk_at "nm", by walk_at "nm", by walk_at "nm", by walk_at "nm", by omega, by omega, by omega, fun i h => by omega, fun i h h' => by omega, rfl⟩ ?_
  clear W
  rintro m s' ⟨ρ, lo, hi, W, ha, hx, hlo, hhi, h1, h2, h3, h4, h5, rfl⟩
  refine ⟨decide (lo < hi), fun Q' E' k' => (pt_cmp (pe_name hlo) (pe_name hhi) op_lt).use o2 W k', fun s₆ x₆ => ⟨fun hlt => ?_, fun hlt => ?_⟩⟩ <;> have W := W.x0 x₆
  · have hlt := of_decide_eq_true hlt
    obtain ⟨m1, m2⟩ := mid_facts h1 hlt
    refine st_assign o2 W (pe_bin (pe_bin (pe_name hlo) (pe_name hhi) op_add) pe_int (op_div (by decide) (PyProof.noPylong_small (by omega)))) (st _ rfl) (fun s₇ W => ?_)
    generalize hmid : (lo + hi).fdiv 2 = mid at W m1 m2
    have hml : mid.toNat < l.length := by omega
    have hit : (l.map D.int)[mid.toNat]? = some (.int (l.getD mid.toNat 0)) := by
      simp [List.getElem?_map, List.getElem?_eq_getElem hml, List.getD_eq_getElem?_getD]
    by_cases hc : l.getD mid.toNat 0 < x
    · refine st_yes o2 W (pt_cmp (pe_item (pe_name (d := .il l) (by walk_at "nm")) (pe_name (d := .int mid) (by walk_at "nm")) (by omega) hit (by omega)) (pe_name (d := .int x) (by walk_at "nm")) op_lt) (decide_eq_true hc) fun s₈ W => ?_
      walk_at "asg"; intro s₉ W
      refine st_nil (st_nil ⟨_, ?_, _, _, _, W, by walk_at "nm", by walk_at "nm", by walk_at "nm", by walk_at "nm", by omega, by omega, h3, fun i hi => ?_, h5, rfl⟩)
      · omega
      · exact Int.lt_of_le_of_lt (sorted_getD_le hs (by omega) hml) hc
    · refine st_else o2 W (pt_cmp (pe_item (pe_name (d := .il l) (by walk_at "nm")) (pe_name (d := .int mid) (by walk_at "nm")) (by omega) hit (by omega)) (pe_name (d := .int x) (by walk_at "nm")) op_lt) (decide_eq_false hc) fun s₈ W => ?_
      walk_at "asg"; intro s₉ W
      refine st_nil (st_nil ⟨_, ?_, _, _, _, W, by walk_at "nm", by walk_at "nm", by walk_at "nm", by walk_at "nm", by omega, by omega, by omega, h4, fun i hi hl hlt => ?_, rfl⟩)
      · omega
      · exact hc (Int.lt_of_le_of_lt (sorted_getD_le hs (by omega) hl) hlt)
  · have hlt := of_decide_eq_false hlt
    have e : hi = lo := by omega
    subst e
    have hbel : (below l x : Int) = hi := by
      have := count_split (l := l) (p := fun y => decide (y < x)) (k := hi.toNat) (by omega) (fun i h => decide_eq_true (h4 i (by omega))) fun i h h' => decide_eq_false (h5 i (by omega) h')
      unfold below; rw [this]; omega
    refine st_nil (st_return o2 W (pe_name hlo) fun v s₇ W r => ?_)
    refine k v s₇ W.x ?_
    rw [hbel]
    exact Rep.less r fun _ m => List.mem_cons_of_mem _ m
theorem br_core (X : BFacts C bl br fl fr) {l : List Int} {x : Int} (hs : l.Pairwise (· ≤ ·)) (hn : l.length < 2 ^ 24) {A : Around} {own : List Addr} {s : Shared} {vs : List Value} {u v z : Value} {Q E : Value → Shared → Prop} (o : Ok 3 A) (I : Inv C s own)
    (hb : BindsTo s fr ⟨vs, []⟩ [(K "a", u), (K "x", v), (K "lo", z), (K "hi", .none), (K "key", .none)]) (ru : Rep C s.heap own u (.il l)) (rv : Rep C s.heap own v (.int x)) (rz : Rep C s.heap own z (.int 0))
    (k : ∀ r s', XB no s s' → Rep C s'.heap own r (.int (upto l x)) → Q r s') : wpAny C.M A (call (.ref br) vs) Q E s := by
  refine wpAny_call (enter (ps := [(K "a", .cl (.il l)), (K "x", .cl (.int x)), (K "lo", .cl (.int 0)), (K "hi", .cl .none), (K "key", .cl .none)]) (ch := no) (lst := noL) o I X.hbr.ok hb (by rw [X.hbr.scope]; rfl) (by rw [X.hbr.scope]; rfl)
    (.cons ru (.cons rv (.cons rz (.cons rfl (.cons rfl .nil))))) (fun _ _ e => by cases e) (fun s₁ env he hL hc W => ?_) (by rw [X.hbr.scope]; rfl))
  simp only [rhoOf] at W
  have o2 : Ok 2 (A.deeper env) := o.deeper
  have st : ∀ x, (scopeAt 3).names.lookup x = some .local → Stores env x := fun x e => .inl (ko he X.hbr.scope e)
  walk_at "no"; intro s₂ W
  walk_at "yes"; intro s₃ W
  refine st_assign o2 W (pe_call ⟨ko he X.hbr.scope rfl, .inr ⟨X.len, X.len'⟩⟩ (pel_cons (pe_name (d := .il l) (by walk_at "nm")) pel_nil) (opn_len (by simp; omega)) (.inl ⟨_, rfl⟩)) (st _ rfl) (fun s₄ W => ?_)
  refine st_nil ?_
  walk_at "yes"; intro s₅ W
  rw [List.length_map] at W
  refine st_while (fun m s' => ∃ ρ lo hi, Fw C env ⟨s, own, no⟩ s' (env.locals :: own) ρ noL ∧ ρ (K "a") = some (.cl (.il l)) ∧ ρ (K "x") = some (.cl (.int x)) ∧ ρ (K "lo") = some (.cl (.int lo)) ∧ ρ (K "hi") = some (.cl (.int hi)) ∧
      0 ≤ lo ∧ lo ≤ hi ∧ hi ≤ l.length ∧ (∀ i : Nat, (i : Int) < lo → ¬ x < l.getD i 0) ∧ (∀ i : Nat, hi ≤ (i : Int) → i < l.length → x < l.getD i 0) ∧ m = (hi - lo).toNat) _
    ⟨_, 0, l.length, W, by walk_at "nm", by walk_at "nm", by walk_at "nm", by walk_at "nm", by omega, by omega, by omega, fun i h => by omega, fun i h h' => by omega, rfl⟩ ?_
  clear W
  rintro m s' ⟨ρ, lo, hi, W, ha, hx, hlo, hhi, h1, h2, h3, h4, h5, rfl⟩
  refine ⟨decide (lo < hi), fun Q' E' k' => (pt_cmp (pe_name hlo) (pe_name hhi) op_lt).use o2 W k', fun s₆ x₆ => ⟨fun hlt => ?_, fun hlt => ?_⟩⟩ <;> have W := W.x0 x₆
  · have hlt := of_decide_eq_true hlt
    obtain ⟨m1, m2⟩ := mid_facts h1 hlt
    refine st_assign o2 W (pe_bin (pe_bin (pe_name hlo) (pe_name hhi) op_add) pe_int (op_div (by decide) (PyProof.noPylong_small (by omega)))) (st _ rfl) (fun s₇ W => ?_)
    generalize hmid : (lo + hi).fdiv 2 = mid at W m1 m2
    have hml : mid.toNat < l.length := by omega
    have hit : (l.map D.int)[mid.toNat]? = some (.int (l.getD mid.toNat 0)) := by
      simp [List.getElem?_map, List.getElem?_eq_getElem hml, List.getD_eq_getElem?_getD]
    by_cases hc : x < l.getD mid.toNat 0
    · refine st_yes o2 W (pt_cmp (pe_name (d := .int x) (by walk_at "nm")) (pe_item (pe_name (d := .il l) (by walk_at "nm")) (pe_name (d := .int mid) (by walk_at "nm")) (by omega) hit (by omega)) op_lt) (decide_eq_true hc) fun s₈ W => ?_
      walk_at "asg"; intro s₉ W
      refine st_nil (st_nil ⟨_, ?_, _, _, _, W, by walk_at "nm", by walk_at "nm", by walk_at "nm", by walk_at "nm", by omega, by omega, by omega, h4, fun i hi hl => ?_, rfl⟩)
      · omega
      · exact Int.lt_of_lt_of_le hc (sorted_getD_le hs (by omega) hl)
    · refine st_else o2 W (pt_cmp (pe_name (d := .int x) (by walk_at "nm")) (pe_item (pe_name (d := .il l) (by walk_at "nm")) (pe_name (d := .int mid) (by walk_at "nm")) (by omega) hit (by omega)) op_lt) (decide_eq_false hc) fun s₈ W => ?_
      walk_at "asg"; intro s₉ W
      refine st_nil (st_nil ⟨_, ?_, _, _, _, W, by walk_at "nm", by walk_at "nm", by walk_at "nm", by walk_at "nm", by omega, by omega, h3, fun i hi hlt => ?_, h5, rfl⟩)
      · omega
      · exact hc (Int.lt_of_lt_of_le hlt (sorted_getD_le hs (by omega) hml))
  · have hlt := of_decide_eq_false hlt
    have e : hi = lo := by omega
    subst e
    have hbel : (upto l x : Int) = hi := by
      have := count_split (l := l) (p := fun y => decide (y ≤ x)) (k := hi.toNat) (by omega) (fun i h => decide_eq_true (Int.not_lt.mp (h4 i (by omega)))) fun i h h' => decide_eq_false (Int.not_le.mpr (h5 i (by omega) h'))
      unfold upto; rw [this]; omega
    refine st_nil (st_return o2 W (pe_name hlo) fun v s₇ W r => ?_)
    refine k v s₇ W.x ?_
    rw [hbel]
    exact Rep.less r fun _ m => List.mem_cons_of_mem _ m
theorem br_spec (X : BFacts C bl br fl fr) {l : List Int} {x : Int} (hs : l.Pairwise (· ≤ ·)) (hn : l.length < 2 ^ 24) : OpN C 3 (.ref br) [.il l, .int x] (.int (upto l x)) := by
  intro A own s vs Q E o I r k
  obtain ⟨t0, hb⟩ := X.bindr
  simp only [RepL] at r
  obtain ⟨u, _, rfl, ru, v, _, rfl, rv, rfl⟩ := r
  exact br_core X hs hn o I (binds_peek I.K (hb u v)) ru rv ⟨_, rfl⟩ k
theorem br_spec4 (X : BFacts C bl br fl fr) {l : List Int} {x : Int} (hs : l.Pairwise (· ≤ ·)) (hn : l.length < 2 ^ 24) : OpN C 3 (.ref br) [.il l, .int x, .int 0, .none] (.int (upto l x)) := by
  intro A own s vs Q E o I r k
  simp only [RepL] at r
  obtain ⟨u, _, rfl, ru, v, _, rfl, rv, z, _, rfl, rz, w, _, rfl, rw, rfl⟩ := r
  simp only [Rep] at rw
  subst rw
  exact br_core X hs hn o I (binds_peek I.K (X.bindr4 u v z .none)) ru rv rz k
end
end Mine

-- part M6
namespace Mine
open PySem PySem.W PyProof.Rows

theorem fits_index {i : Int} (h0 : -(2 ^ 63) ≤ i) (h1 : i < 2 ^ 63) : ¬ (!Builtin.List.listFitsIndex i) = true := by
  have : Builtin.List.listFitsIndex i = true := by
    unfold Builtin.List.listFitsIndex
    rw [Bool.and_eq_true]
    exact ⟨decide_eq_true h0, decide_eq_true h1⟩
  rw [this]; decide
theorem small_line {m : Nat} (h : m < 2 ^ 20) : m ≤ sizeLine := by rw [sizeLine_eq]; omega
/-- the shape of a list's turn -/
theorem plain_turn {h : Heap} {a : Addr} {vs : Array Value} (p : h.PlainList a vs) (f : Array Value → Array Value) : (h.update a (Obj.mapSeq f)).PlainList a (f vs) ∧ Heap.SameBut a h (h.update a (Obj.mapSeq f)) := by
  obtain ⟨n, e⟩ := p
  exact ⟨⟨_, PySem.IsL.update e f⟩, Heap.SameBut.update ..⟩

section
variable {C : Cx} {env : Env} {B : Org} {own : List Addr} {s : Shared} {ρ : Rho} {lst : Lst}

/-- one of the lists turns -/
theorem Fw.turnX (W : Fw C env B s own ρ lst) {a : Addr} {ds ds' : List D} {vs' : List Value} {s' : Shared} (hl : lst a = some ds) {vs : List Value} (p : s.heap.PlainList a (List.toArray vs))
    (p' : s'.heap.PlainList a (List.toArray vs')) (y : XB (one a) s s') (hr : RepL C s.heap own vs' ds') : Fw C env B s' own ρ (lst.set a ds') := by
  have ha := (W.F.lst a ds hl).1
  have up : ∀ b o, b ≠ a → s.heap.get? b = some o → s'.heap.get? b = some o := fun b o q e => y.keep b o q e
  have upo : ∀ b o, b ∉ own → s.heap.get? b = some o → s'.heap.get? b = some o := fun b o q e => up b o (fun z => q (z ▸ ha)) e
  have mv : ∀ {d : D} {v : Value}, Rep C s.heap own v d → Rep C s'.heap own v d := fun {d} {v} r => r.move d upo fun _ q => .inl q
  have mvL : ∀ {d : List D} {v : List Value}, RepL C s.heap own v d → RepL C s'.heap own v d := fun {d} {v} r => r.move d upo fun _ q => .inl q
  have nl : ∀ c v, s.heap.IsCell c v → c ≠ a := fun c v hc => Ne.symm (cell_ne_list hc p.isList)
  have cell : ∀ c v, s.heap.IsCell c v → s'.heap.IsCell c v := fun c v hc => let ⟨o, e, d⟩ := hc; ⟨o, up c o (nl c v hc) e, d⟩
  have ns : ∀ m, s.heap.Ns env.locals m → s'.heap.Ns env.locals m := fun m n => n.at' fun o e => up _ o (Ne.symm (ns_ne_list n p.isList)) e
  refine ⟨W.I.xb y (by rintro b rfl; exact ha), ?_, W.x.into y (W.new a (.inr (.inr ⟨ds, hl⟩))), fun c hc => W.new c ?_, W.grow, W.incl⟩
  · refine ⟨W.F.kind, W.F.glob, W.F.bui, ?_, ?_, W.F.apart, W.F.ne, W.F.lown, W.F.cown, ?_, ?_⟩
    · obtain ⟨m, n⟩ := W.F.loc
      exact ⟨m, ns m n⟩
    · intro n c e
      obtain ⟨v, z⟩ := W.F.cel n c e
      exact ⟨v, cell c v z⟩
    · intro x q e
      obtain ⟨v, r, z⟩ := W.F.get x q e
      refine ⟨v, ?_, ?_⟩
      · rcases r with ⟨k, m, n, e⟩ | ⟨k, c, e, z⟩
        · exact .inl ⟨k, m, ns m n, e⟩
        · exact .inr ⟨k, c, e, cell c _ z⟩
      · cases q with
        | raw u => exact z
        | cl d => exact mv (d := d) z
        | «at» b =>
          refine ⟨z.1, z.2.1, ?_⟩
          obtain ⟨its, q⟩ := z.2.2
          by_cases e : b = a
          · subst e; exact ⟨_, p'⟩
          · exact ⟨its, q.at fun o z => up b o e z⟩
    · intro b es e
      unfold Lst.set at e
      by_cases hb : b = a
      · subst hb
        rw [if_pos rfl] at e
        cases e
        exact ⟨ha, vs', p', mvL hr⟩
      · rw [if_neg hb] at e
        obtain ⟨m, us, l, r⟩ := W.F.lst b es e
        exact ⟨m, us, l.at fun o z => up b o hb z, mvL r⟩
  · rcases hc with hc | hc | ⟨es, e⟩
    · exact .inl hc
    · exact .inr (.inl hc)
    · unfold Lst.set at e
      by_cases hb : c = a
      · subst hb; exact .inr (.inr ⟨ds, hl⟩)
      · rw [if_neg hb] at e; exact .inr (.inr ⟨es, e⟩)
theorem Fw.turn (W : Fw C env B s own ρ lst) {a : Addr} {ds ds' : List D} {vs' : List Value} {h' : Heap} (hl : lst a = some ds) {vs : List Value} (p : s.heap.PlainList a (List.toArray vs))
    (p' : h'.PlainList a (List.toArray vs')) (sb : Heap.SameBut a s.heap h') (hr : RepL C s.heap own vs' ds') (tk : Nat) : Fw C env B { s with heap := h', toks := tk } own ρ (lst.set a ds') :=
  W.turnX hl p p' (.sameBut sb (let ⟨_, e⟩ := p'; ⟨_, e⟩)) hr
end

theorem RepL.get' {C : Cx} {h : Heap} {own : List Addr} : ∀ {ds : List D} {vs : List Value}, RepL C h own vs ds → ∀ (i : Nat) (v : Value), vs[i]? = some v → ∃ d, ds[i]? = some d ∧ Rep C h own v d
  | [], vs, r, i, v, e => by simp only [RepL] at r; subst r; simp at e
  | d :: ds, vs, r, i, v, e => by
    simp only [RepL] at r
    obtain ⟨u, t, rfl, r1, r2⟩ := r
    cases i with
    | zero => simp at e; subst e; exact ⟨d, rfl, r1⟩
    | succ i => simpa using RepL.get' r2 i v (by simpa using e)
theorem RepL.take {C : Cx} {h : Heap} {own : List Addr} : ∀ {ds : List D} {vs : List Value}, RepL C h own vs ds → ∀ (k : Nat), RepL C h own (vs.take k) (ds.take k)
  | [], vs, r, k => by simp only [RepL] at r; subst r; simp [RepL]
  | d :: ds, vs, r, k => by
    simp only [RepL] at r
    obtain ⟨u, t, rfl, r1, r2⟩ := r
    cases k with
    | zero => simp [RepL]
    | succ k => simp only [List.take_succ_cons, RepL]; exact ⟨u, _, rfl, r1, RepL.take r2 k⟩
theorem RepL.drop {C : Cx} {h : Heap} {own : List Addr} : ∀ {ds : List D} {vs : List Value}, RepL C h own vs ds → ∀ (k : Nat), RepL C h own (vs.drop k) (ds.drop k)
  | [], vs, r, k => by simp only [RepL] at r; subst r; simp [RepL]
  | d :: ds, vs, r, k => by
    have r0 := r
    simp only [RepL] at r
    obtain ⟨u, t, rfl, r1, r2⟩ := r
    cases k with
    | zero => exact r0
    | succ k => simpa using RepL.drop r2 k
theorem RepL.cons {C : Cx} {h : Heap} {own : List Addr} {d : D} {v : Value} {ds : List D} {vs : List Value} (r : Rep C h own v d) (t : RepL C h own vs ds) : RepL C h own (v :: vs) (d :: ds) := by
  simp only [RepL]; exact ⟨v, vs, rfl, r, t⟩
theorem RepL.cons' {C : Cx} {h : Heap} {own : List Addr} {d : D} {v : Value} {ds : List D} {vs : List Value} (t : RepL C h own vs ds) (r : Rep C h own v d) : RepL C h own (v :: vs) (d :: ds) := RepL.cons r t
theorem RepL.erase {C : Cx} {h : Heap} {own : List Addr} {ds : List D} {vs : List Value} (r : RepL C h own vs ds) (k : Nat) : RepL C h own (vs.eraseIdx k) (ds.eraseIdx k) := by
  rw [List.eraseIdx_eq_take_drop_succ, List.eraseIdx_eq_take_drop_succ]
  exact (r.take k).append (r.drop (k + 1))

section
variable {C : Cx} {n : Nat} {A : Around} {env : Env} {B : Org} {own : List Addr} {s : Shared} {ρ : Rho} {lst : Lst} {rest : List Stmt}

/-- a method of an own list is called -/
theorem own_method {x : Str} {px apos pos : Pos} {meth : Str} {id : String} {args : List Expr} {a : Addr} {Q E : Value → Shared → Prop} (W : Fw C env B s own ρ lst) (hx : ρ x = some (.at a))
    (slot : Slot "list" meth id) (hty : typeOf (.builtin id) = pure (.type "method_descriptor"))
    (h : wpAny C.M A (evalArgs (.builtin id) true (backTo pos (starEach args env)) []) (fun as s₁ => wpAny C.M A (call (.builtin id) (.ref a :: as.pos) as.kw) Q E s₁) E s)
    (hd : (x == ("__debug__" : Str)) = false := by decide) (hc : (x == ("__classdict__" : Str)) = false := by decide)
    (hplain : (backTo pos (starEach args env)).any (·.1) = false := by rfl)
    (hfew : ((backTo pos (starEach args env)).all (fun x => !x.1) && (backToKw pos (keywordEach [] env)).all (fun x => x.1.isSome)
      && decide (args.length + ([] : List Keyword).length + (if ([] : List Keyword).isEmpty then 0 else 1) < 30)) = true := by rfl)
    (hline : (apos.endLine == pos.line) = true := by rfl) :
    wpAny C.M A (eval (.Call (.Attribute (.Name x px) meth apos) args [] pos) env) Q E s := by
  obtain ⟨v, r, rfl, _, its, m, p⟩ := W.F.get x _ hx
  refine wpAny_Call_method rfl hfew hline PySem.F.plainAttrs_list slot hty (wpAny_Name (r.load W.F.kind ⟨⟨_, p, rfl⟩, fun b e => by cases e; exact ⟨_, p, rfl⟩, ?_⟩ hc) hd)
  exact Calls.callWith_builtin hplain h

theorem args1 {f : Value} {e : Expr} {pos : Pos} {Q : Args → Shared → Prop} {E : Value → Shared → Prop} (he : starEach [e] env = [(false, eval e env)])
    (h : wpAny C.M A (eval e env) (fun v s₁ => Q ⟨[v], []⟩ s₁) E s) : wpAny C.M A (evalArgs f true (backTo pos (starEach [e] env)) []) Q E s := by
  rw [he]
  exact Calls.evalArgs_plain (Calls.spliced_cons (wpAny_mono h (fun v s₁ q => Calls.spliced_nil q) fun _ _ q => q))

/-- x.append(e) -/
theorem st_append {x : Str} {px apos pos spos : Pos} {e : Expr} {a : Addr} {Q : Flow → Shared → Prop} {E : Value → Shared → Prop} (W : Fw C env B s own ρ lst) (hx : ρ x = some (.at a))
    (h : wpAny C.M A (eval e env) (fun v s₁ => ∃ lst₁ ds d, Fw C env B s₁ own ρ lst₁ ∧ lst₁ a = some ds ∧ ds.length < 2 ^ 20 ∧ Rep C s₁.heap own v d ∧
      ∀ s₂, Fw C env B s₂ own ρ (lst₁.set a (ds ++ [d])) → wpAny C.M A (execs rest env) Q E s₂) E s)
    (hs : swapsWith (.Call (.Attribute (.Name x px) (K "append") apos) [e] [] pos) none spos.line env = pure false := by rfl) (hi : interactive env = false := by rfl)
    (hd : (x == ("__debug__" : Str)) = false := by decide) (hc : (x == ("__classdict__" : Str)) = false := by decide)
    (he : starEach [e] env = [(false, eval e env)] := by rfl) (hline : (apos.endLine == pos.line) = true := by rfl) :
    wpAny C.M A (execs (.Expr (.Call (.Attribute (.Name x px) (K "append") apos) [e] [] pos) spos :: rest) env) Q E s := by
  refine wpAny_execs_cons (wpAny_Expr (own_method W hx slot_list_append type_list_append (args1 he (wpAny_mono h (fun v s₁ q => ?_) fun _ _ q => q)) hd hc (by rw [he]; rfl) (by rw [he]; rfl) hline) hi hs)
  obtain ⟨lst₁, ds, d, W₁, hl, hn, r, k⟩ := q
  obtain ⟨_, vs, p, rv⟩ := W₁.F.lst a ds hl
  refine wpAny_list_append_plain p (fun h' p' sb => ?_) (by rw [List.size_toArray, rv.length, sizeLine_eq]; omega)
  exact k _ (W₁.turn (vs' := vs ++ [v]) hl p (by simpa using p') sb (rv.append (.single r)) s₁.toks)

/-- x.append(e), e pure -/
theorem st_append1 {x : Str} {px apos pos spos : Pos} {e : Expr} {a : Addr} {ds : List D} {d : D} {Q : Flow → Shared → Prop} {E : Value → Shared → Prop} (o : Ok n A) (W : Fw C env B s own ρ lst) (hx : ρ x = some (.at a))
    (hp : PE C n env ρ e d) (hl : lst a = some ds) (hn : ds.length < 2 ^ 20)
    (k : ∀ s₂, Fw C env B s₂ own ρ (lst.set a (ds ++ [d])) → wpAny C.M A (execs rest env) Q E s₂)
    (hs : swapsWith (.Call (.Attribute (.Name x px) (K "append") apos) [e] [] pos) none spos.line env = pure false := by rfl) (hi : interactive env = false)
    (hd : (x == ("__debug__" : Str)) = false := by decide) (hc : (x == ("__classdict__" : Str)) = false := by decide)
    (he : starEach [e] env = [(false, eval e env)] := by rfl) (hline : (apos.endLine == pos.line) = true := by rfl) :
    wpAny C.M A (execs (.Expr (.Call (.Attribute (.Name x px) (K "append") apos) [e] [] pos) spos :: rest) env) Q E s :=
  st_append W hx (hp.use o W fun v s₁ x₁ r => ⟨lst, ds, d, W.x0 x₁, hl, hn, r, k⟩) hs hi hd hc he hline

/-- x.pop(e) -/
theorem ee_pop_at {x : Str} {px apos pos : Pos} {e : Expr} {a : Addr} {ds : List D} {d : D} {i : Int} {Q E : Value → Shared → Prop} (o : Ok n A) (W : Fw C env B s own ρ lst) (hx : ρ x = some (.at a))
    (hp : PE C n env ρ e (.int i)) (hl : lst a = some ds) (hn : ds.length < 2 ^ 20) (h0 : 0 ≤ i) (hd' : ds[i.toNat]? = some d)
    (k : ∀ v s₁, XB (one a) s s₁ → Fw C env B s₁ own ρ (lst.set a (ds.eraseIdx i.toNat)) → Rep C s₁.heap own v d → Q v s₁)
    (hd : (x == ("__debug__" : Str)) = false := by decide) (hc : (x == ("__classdict__" : Str)) = false := by decide)
    (he : starEach [e] env = [(false, eval e env)] := by rfl) (hline : (apos.endLine == pos.line) = true := by rfl) :
    wpAny C.M A (eval (.Call (.Attribute (.Name x px) (K "pop") apos) [e] [] pos) env) Q E s := by
  refine own_method W hx PySem.F.slot_list_pop PySem.F.type_list_pop (args1 he (hp.use o W fun v s₁ x₁ r => ?_)) hd hc (by rw [he]; rfl) (by rw [he]; rfl) hline
  obtain ⟨t, rfl⟩ := r
  have W₁ := W.x0 x₁
  obtain ⟨_, vs, ⟨m, p⟩, rv⟩ := W₁.F.lst a ds hl
  obtain ⟨y, hy, ry⟩ := rv.get _ _ hd'
  have hlt : i.toNat < vs.length := (List.getElem?_eq_some_iff.mp hy).1
  have hlen := rv.length
  refine call_meets PySem.F.slot_list_pop ⟨_, p, rfl⟩ PySem.F.entry_list_pop (PySem.F.args_list_pop_2 _ _) (PySem.MeetsSeq.list_pop_at a _ m i t i.toNat y (by unfold Builtin.List.listFitsIndex; simp; omega) ?_ (by simpa using hy) (by rw [List.size_toArray, sizeLine_eq]; omega)) ⟨p, ?_⟩
  · exact PySem.seqIndex_of h0 (by rw [List.size_toArray]; omega)
  · have := W₁.turn (vs := vs) (vs' := vs.eraseIdx i.toNat) (h' := s₁.heap.update a (Obj.mapSeq fun xs => xs.eraseIdxIfInBounds i.toNat)) hl ⟨m, p⟩ (by
      have q := (plain_turn ⟨m, p⟩ fun xs => xs.eraseIdxIfInBounds i.toNat).1
      have e : (List.toArray vs).eraseIdxIfInBounds i.toNat = List.toArray (vs.eraseIdx i.toNat) := by
        simp only [Array.eraseIdxIfInBounds]
        split
        · apply Array.toList_inj.mp; simp
        · rename_i h; simp at h; omega
      rwa [e] at q) (Heap.SameBut.update ..) (rv.erase i.toNat) s₁.toks
    exact k _ _ (x₁.nil.trans (.sameBut (tk := s₁.toks) (Heap.SameBut.update ..) (let ⟨_, e⟩ := (plain_turn ⟨m, p⟩ fun xs => xs.eraseIdxIfInBounds i.toNat).1; ⟨_, e⟩))) this (ry.sameBut (Heap.SameBut.update ..) (W₁.F.lst a ds hl).1)
/-- x.pop() -/
theorem ee_pop {x : Str} {px apos pos : Pos} {a : Addr} {ds : List D} {d : D} {Q E : Value → Shared → Prop} (W : Fw C env B s own ρ lst) (hx : ρ x = some (.at a))
    (hl : lst a = some (ds ++ [d])) (hn : ds.length < 2 ^ 20)
    (k : ∀ v s₁, XB (one a) s s₁ → Fw C env B s₁ own ρ (lst.set a ds) → Rep C s₁.heap own v d → Q v s₁)
    (hd : (x == ("__debug__" : Str)) = false := by decide) (hc : (x == ("__classdict__" : Str)) = false := by decide) (hline : (apos.endLine == pos.line) = true := by rfl) :
    wpAny C.M A (eval (.Call (.Attribute (.Name x px) (K "pop") apos) [] [] pos) env) Q E s := by
  refine own_method W hx PySem.F.slot_list_pop PySem.F.type_list_pop (PySem.evalArgs_none ?_) hd hc rfl rfl hline
  obtain ⟨_, vs, ⟨m, p⟩, rv⟩ := W.F.lst a _ hl
  have hlen := rv.length
  rw [List.length_append, List.length_singleton] at hlen
  obtain ⟨y, hy, ry⟩ := rv.get ds.length d (by simp)
  refine call_meets PySem.F.slot_list_pop ⟨_, p, rfl⟩ PySem.F.entry_list_pop (PySem.F.args_list_pop_1 _) (PySem.MeetsSeq.list_pop_last a _ m y (by rw [List.size_toArray, hlen]; simpa using hy) (by rw [List.size_toArray, sizeLine_eq]; omega)) ⟨p, ?_⟩
  have re : RepL C s.heap own (vs.eraseIdx ds.length) ds := by
    have := rv.erase ds.length
    have e : (ds ++ [d]).eraseIdx ds.length = ds := by
      rw [List.eraseIdx_eq_take_drop_succ]; simp
    rwa [e] at this
  have := W.turn (vs := vs) (vs' := vs.eraseIdx ds.length) (h' := s.heap.update a (Obj.mapSeq fun xs => xs.eraseIdxIfInBounds ((List.toArray vs).size - 1))) hl ⟨m, p⟩ (by
      have q := (plain_turn ⟨m, p⟩ fun xs => xs.eraseIdxIfInBounds ((List.toArray vs).size - 1)).1
      have e : (List.toArray vs).eraseIdxIfInBounds ((List.toArray vs).size - 1) = List.toArray (vs.eraseIdx ds.length) := by
        simp only [Array.eraseIdxIfInBounds]
        split
        · apply Array.toList_inj.mp; simp [hlen]
        · rename_i h; simp at h; omega
      rwa [e] at q) (Heap.SameBut.update ..) re s.toks
  exact k _ _ (.sameBut (tk := s.toks) (Heap.SameBut.update ..) (let ⟨_, e⟩ := (plain_turn ⟨m, p⟩ fun xs => xs.eraseIdxIfInBounds ((List.toArray vs).size - 1)).1; ⟨_, e⟩)) this (ry.sameBut (Heap.SameBut.update ..) (W.F.lst a _ hl).1)

theorem call_insert {prog : Program} {w : World} {a : Addr} {vs : List Value} {m i : Nat} {k : Int} {t : Tok} {y : Value} {Q E : Value → Shared → Prop} (hk : k = i) (p : s.heap.get? a = some { cls := .type "list", data := .seq (List.toArray vs) m }) (hn : vs.length < 2 ^ 20) (hi : i ≤ vs.length)
    (h : ∀ h', h'.PlainList a (List.toArray (vs.take i ++ y :: vs.drop i)) → Heap.SameBut a s.heap h' → Q .none { s with heap := h' }) : wpAny (model prog w) A (call (.builtin "list.insert") [.ref a, .int k t, y]) Q E s := by
  have hz : (List.toArray vs).size ≤ sizeLine := Nat.le_trans (Nat.le_of_eq (by rw [List.size_toArray])) (small_line hn)
  have hf : ¬ (!Builtin.List.listFitsIndex k) = true := fits_index (by omega) (by omega)
  have g := @PySem.AutoSeq1.list_insert_list_int_val_1 a (List.toArray vs) m k t y hf hz
  refine call_meets PySem.F.slot_list_insert ⟨_, p, rfl⟩ PySem.F.entry_list_insert (PySem.F.args_list_insert_3 _ _ _) g ⟨p, h _ ?_ (Heap.SameBut.update ..)⟩
  have q := (plain_turn ⟨m, p⟩ (fun xs : Array Value => have j := if k < 0 then (k + (xs.size : Int)).toNat else min k.toNat xs.size; (xs.extract 0 j).push y ++ xs.extract j)).1
  have e : (fun xs : Array Value => have j := if k < 0 then (k + (xs.size : Int)).toNat else min k.toNat xs.size; (xs.extract 0 j).push y ++ xs.extract j) (List.toArray vs) = List.toArray (vs.take i ++ y :: vs.drop i) := by
    have e2 : (if k < 0 then (k + ((List.toArray vs).size : Int)).toNat else min k.toNat (List.toArray vs).size) = i := by
      rw [if_neg (by omega), List.size_toArray]; omega
    show ((List.toArray vs).extract 0 _).push y ++ (List.toArray vs).extract _ = _
    rw [e2]
    apply Array.toList_inj.mp
    rw [Array.toList_append, Array.toList_push, Array.toList_extract, Array.toList_extract]
    simp only [List.extract_eq_take_drop, List.drop_zero, Nat.sub_zero, List.append_assoc, List.singleton_append, List.size_toArray]
    rw [List.take_of_length_le (l := vs.drop i) (by rw [List.length_drop]; omega)]
  exact e ▸ q
/-- x.insert(i, e) -/
theorem st_insert {x : Str} {px apos pos spos : Pos} {e1 e2 : Expr} {a : Addr} {ds : List D} {d : D} {i : Nat} {Q : Flow → Shared → Prop} {E : Value → Shared → Prop} (o : Ok n A) (W : Fw C env B s own ρ lst) (hx : ρ x = some (.at a))
    (hp : PEL C n env ρ [e1, e2] [.int i, d]) (hl : lst a = some ds) (hn : ds.length < 2 ^ 20) (hi : i ≤ ds.length)
    (k : ∀ s₂, Fw C env B s₂ own ρ (lst.set a (ds.take i ++ d :: ds.drop i)) → wpAny C.M A (execs rest env) Q E s₂)
    (hs : swapsWith (.Call (.Attribute (.Name x px) (K "insert") apos) [e1, e2] [] pos) none spos.line env = pure false := by rfl) (hint : interactive env = false)
    (hd : (x == ("__debug__" : Str)) = false := by decide) (hc : (x == ("__classdict__" : Str)) = false := by decide)
    (he : starEach [e1, e2] env = [(false, eval e1 env), (false, eval e2 env)] := by rfl) (hline : (apos.endLine == pos.line) = true := by rfl) :
    wpAny C.M A (execs (.Expr (.Call (.Attribute (.Name x px) (K "insert") apos) [e1, e2] [] pos) spos :: rest) env) Q E s := by
  refine wpAny_execs_cons (wpAny_Expr (own_method W hx PySem.F.slot_list_insert PySem.F.type_list_insert ?_ hd hc (by rw [he]; rfl) (by rw [he]; rfl) hline) hint hs)
  have step := hp pos A own lst s (fun vs s₁ => wpAny C.M A (call (.builtin "list.insert") (.ref a :: vs) []) (fun v s' => match v with | .ref _ => False | _ => wpAny C.M A (execs rest env) Q E s') E s₁) E o W.I W.F fun vs s₁ x₁ r => ?_
  · rw [he] at step ⊢
    exact Calls.evalArgs_plain step
  · simp only [RepL] at r
    obtain ⟨_, _, rfl, ⟨t, rfl⟩, y, _, rfl, ry, rfl⟩ := r
    have W₁ := W.x0 x₁
    obtain ⟨_, vs, ⟨m, p⟩, rv⟩ := W₁.F.lst a ds hl
    have hlen := rv.length
    exact call_insert rfl p (by omega) (by omega) fun h' p' sb => k _ (W₁.turn hl ⟨m, p⟩ p' sb ((rv.take i).append ((rv.drop i).cons' ry)) s₁.toks)
end
end Mine

-- part M7
namespace Mine
open PySem PySem.W PyProof.Rows

/-- an expression at a state -/
def EV (C : Cx) (n : Nat) (env : Env) (own : List Addr) (s : Shared) (e : Expr) (d : D) : Prop :=
  ∀ (A : Around) (Q E : Value → Shared → Prop), Ok n A → (∀ v s', XB no s s' → Rep C s'.heap own v d → Q v s') → wpAny C.M A (eval e env) Q E s
def TV (C : Cx) (n : Nat) (env : Env) (s : Shared) (e : Expr) (b : Bool) : Prop :=
  ∀ (A : Around) (Q : Bool → Shared → Prop) (E : Value → Shared → Prop), Ok n A → (∀ s', XB no s s' → Q b s') → wpAny C.M A (isTrue e env (eval e env)) Q E s

/-- one own list lent to an expression that reads alone -/
def Rho.bor (ρ : Rho) (x : Str) (ds : List D) : Rho := fun y => if y = x then some (.cl (.list ds)) else match ρ y with
  | some (.cl d) => some (.cl d)
  | some (.raw u) => some (.raw u)
  | _ => none
theorem Rho.bor_same {ρ : Rho} {x : Str} {ds : List D} : (ρ.bor x ds) x = some (.cl (.list ds)) := by simp [Rho.bor]
theorem Rho.bor_ne {ρ : Rho} {x y : Str} {ds : List D} {d : D} (h : (y == x) = false) (e : ρ y = some (.cl d)) : (ρ.bor x ds) y = some (.cl d) := by
  unfold Rho.bor
  rw [if_neg (by simpa using h), e]

section
variable {C : Cx} {n : Nat} {A : Around} {env : Env} {B : Org} {own : List Addr} {s : Shared} {ρ : Rho} {lst : Lst} {rest : List Stmt} {Q : Flow → Shared → Prop} {E : Value → Shared → Prop}

theorem PE.ev {e : Expr} {d : D} (h : PE C n env ρ e d) (W : Fw C env B s own ρ lst) : EV C n env own s e d := fun A Q E o k => h A own lst s Q E o W.I W.F k
theorem PT.tv {e : Expr} {b : Bool} (h : PT C n env ρ e b) (W : Fw C env B s own ρ lst) : TV C n env s e b := fun A Q E o k => h A own lst s Q E o W.I W.F k

theorem Fw.bor (W : Fw C env B s own ρ lst) {x : Str} {a : Addr} {ds : List D} (hx : ρ x = some (.at a)) (hl : lst a = some ds) :
    Inv C s (own.filter fun b => !(b == a)) ∧ Frm C env s.heap (own.filter fun b => !(b == a)) (ρ.bor x ds) noL := by
  have less : ∀ b ∈ own.filter (fun b => !(b == a)), b ∈ own := fun b m => (List.mem_filter.mp m).1
  have put : ∀ b, b ∈ own → b ≠ a → b ∈ own.filter (fun b => !(b == a)) := fun b m q => List.mem_filter.mpr ⟨m, by simpa using q⟩
  obtain ⟨ha, vs, p, rv⟩ := W.F.lst a ds hl
  refine ⟨W.I.less less, W.F.kind, W.F.glob, W.F.bui, W.F.loc, W.F.cel, W.F.apart, W.F.ne, put _ W.F.lown ?_, fun n c e => put _ (W.F.cown n c e) ?_, fun y q e => ?_, fun _ _ e => by cases e⟩
  · obtain ⟨m, z⟩ := W.F.loc
    exact Ne.symm (ns_ne_list z p.isList)
  · obtain ⟨v, z⟩ := W.F.cel n c e
    exact Ne.symm (cell_ne_list z p.isList)
  · unfold Rho.bor at e
    by_cases hy : y = x
    · subst hy
      rw [if_pos rfl] at e
      cases e
      obtain ⟨v, r, rfl, _⟩ := W.F.get y _ hx
      refine ⟨_, r, ?_⟩
      show Rep C s.heap _ _ (.list ds)
      simp only [Rep]
      exact ⟨a, vs, rfl, fun m => by have := (List.mem_filter.mp m).2; simp at this, p.isList, rv.less less⟩
    · rw [if_neg hy] at e
      cases hq : ρ y with
      | none => rw [hq] at e; cases e
      | some z =>
        rw [hq] at e
        cases z with
        | cl d =>
          cases e
          obtain ⟨v, r, z⟩ := W.F.get y _ hq
          exact ⟨v, r, Rep.less (d := d) z less⟩
        | «at» b => cases e
        | raw u =>
          cases e
          obtain ⟨v, r, z⟩ := W.F.get y _ hq
          exact ⟨v, r, z⟩
theorem PE.evi {e : Expr} {i : Int} {x : Str} {a : Addr} {ds : List D} (h : PE C n env (ρ.bor x ds) e (.int i)) (W : Fw C env B s own ρ lst) (hx : ρ x = some (.at a)) (hl : lst a = some ds) : EV C n env own s e (.int i) := fun A Q E o k => by
  obtain ⟨I, F⟩ := W.bor hx hl
  exact h A _ _ s Q E o I F fun v s' x r => k v s' x (by simpa only [Rep] using r)
theorem PT.tvi {e : Expr} {b : Bool} {x : Str} {a : Addr} {ds : List D} (h : PT C n env (ρ.bor x ds) e b) (W : Fw C env B s own ρ lst) (hx : ρ x = some (.at a)) (hl : lst a = some ds) : TV C n env s e b := fun A Q E o k => by
  obtain ⟨I, F⟩ := W.bor hx hl
  exact h A _ _ s Q E o I F k

theorem sv_assign {x : Str} {px pos : Pos} {e : Expr} {d : D} (o : Ok n A) (W : Fw C env B s own ρ lst) (he : EV C n env own s e d) (hx : Stores env x)
    (k : ∀ s', Fw C env B s' own (ρ.set x (.cl d)) lst → wpAny C.M A (execs rest env) Q E s') (hs : swapsWith e (some (.Name x px)) pos.line env = pure false := by rfl) :
    wpAny C.M A (execs (.Assign [.Name x px] e pos :: rest) env) Q E s :=
  wpAny_execs_cons (wpAny_Assign_Name (he A _ _ o fun v s₁ x₁ r => store_name (p := .cl d) (W.x0 x₁) hx r k) hs)
theorem sv_if {t : Expr} {a b : List Stmt} {pos : Pos} {c : Bool} (o : Ok n A) (W : Fw C env B s own ρ lst) (ht : TV C n env s t c)
    (k : ∀ s', Fw C env B s' own ρ lst → (c = true → wpAny C.M A (execs a env) (fun f s' => match f with | .next => wpAny C.M A (execs rest env) Q E s' | f => Q f s') E s') ∧
      (c = false → wpAny C.M A (execs b env) (fun f s' => match f with | .next => wpAny C.M A (execs rest env) Q E s' | f => Q f s') E s')) :
    wpAny C.M A (execs (.If t a b pos :: rest) env) Q E s := by
  refine wpAny_execs_cons (wpAny_If (ht A _ _ o fun s₁ x₁ => ?_))
  have := k s₁ (W.x0 x₁)
  cases c
  · exact this.2 rfl
  · exact this.1 rfl
theorem sv_append {x : Str} {px apos pos spos : Pos} {e : Expr} {a : Addr} {ds : List D} {d : D} (o : Ok n A) (W : Fw C env B s own ρ lst) (hx : ρ x = some (.at a))
    (hp : EV C n env own s e d) (hl : lst a = some ds) (hn : ds.length < 2 ^ 20)
    (k : ∀ s₂, Fw C env B s₂ own ρ (lst.set a (ds ++ [d])) → wpAny C.M A (execs rest env) Q E s₂) (hi : interactive env = false)
    (hs : swapsWith (.Call (.Attribute (.Name x px) (K "append") apos) [e] [] pos) none spos.line env = pure false := by rfl)
    (hd : (x == ("__debug__" : Str)) = false := by decide) (hc : (x == ("__classdict__" : Str)) = false := by decide)
    (he : starEach [e] env = [(false, eval e env)] := by rfl) (hline : (apos.endLine == pos.line) = true := by rfl) :
    wpAny C.M A (execs (.Expr (.Call (.Attribute (.Name x px) (K "append") apos) [e] [] pos) spos :: rest) env) Q E s :=
  st_append W hx (hp A _ _ o fun v s₁ x₁ r => ⟨lst, ds, d, W.x0 x₁, hl, hn, r, k⟩) hs hi hd hc he hline

theorem not_interactive (F : Frm C env s.heap own ρ lst) : interactive env = false := by
  unfold interactive
  rw [F.kind]; rfl
end

-- insort_right
structure IFacts (C : Cx) (bl br ins : Addr) (fl fr fi : FuncData) : Prop extends BFacts C bl br fl fr where
  hin : FnAt C 2 ins fi
  nbr : C.mg (K "bisect_right") = some (.ref br)
  nbl : C.mg (K "bisect_left") = some (.ref bl)
  nin : C.mg (K "insort_right") = some (.ref ins)
  bindi : ∃ t, ∀ u v S, peek C.K S (bindArgs fi ⟨[u, v], []⟩) = some [(K "a", u), (K "x", v), (K "lo", .int 0 t), (K "hi", .none), (K "key", .none)]

theorem FnAt.atK {C : Cx} {i : Nat} {f : Addr} {fd : FuncData} (h : FnAt C i f fd) : ∃ a o fd', Value.ref f = .ref a ∧ C.K.lookup a = some o ∧ o.data = .func fd' :=
  let ⟨_, _, _, e⟩ := h.ok.at; ⟨f, _, fd, rfl, e, rfl⟩

def insR (l : List Int) (x : Int) : List Int := l.take (upto l x) ++ x :: l.drop (upto l x)

local macro_rules | `(tactic| walk_at "nm") => `(tactic| repeat' (first | assumption | exact Rho.same | exact Rho.bor_same | refine Rho.bor_ne (by decide) ?_ | refine Rho.ne (by decide) ?_))
local macro_rules | `(tactic| walk_at "pe") => `(tactic| repeat' (first
  | exact pe_int | exact pe_none | exact pe_bool | exact pe_str
  | (refine' pe_name ?hn ; (case hn => (walk_at "nm"; done)))
  | refine' pe_bin ?_ ?_ op_add | refine' pe_bin ?_ ?_ op_sub | refine' pt_cmp ?_ ?_ op_lt | refine' pt_cmp ?_ ?_ (op_isnone _ rfl)))
local macro_rules | `(tactic| walk_at "no") => `(tactic| (refine' st_no ?o ?W ?ht ?hc ?k; (case o => assumption); (case W => assumption); (case ht => (walk_at "pe"; done)); (case hc => first | rfl | decide | assumption)))
local macro_rules | `(tactic| walk_at "yes") => `(tactic| (refine' st_yes ?o ?W ?ht ?hc ?k; (case o => assumption); (case W => assumption); (case ht => (walk_at "pe"; done)); (case hc => first | rfl | decide | assumption)))

theorem upto_le (l : List Int) (x : Int) : upto l x ≤ l.length := List.length_filter_le ..
theorem below_le (l : List Int) (x : Int) : below l x ≤ l.length := List.length_filter_le ..

section
variable {C : Cx} {bl br ins : Addr} {fl fr fi : FuncData}
theorem ins_spec (X : IFacts C bl br ins fl fr fi) {l : List Int} {x : Int} (hs : l.Pairwise (· ≤ ·)) (hn : l.length < 2 ^ 20) {A : Around} {own : List Addr} {s : Shared} {a : Addr} {v : Value} {vs : List Value} {Q E : Value → Shared → Prop}
    (o : Ok 5 A) (I : Inv C s own) (ha : a ∈ own) (p : s.heap.PlainList a (List.toArray vs)) (rl : RepL C s.heap own vs (l.map .int)) (rv : Rep C s.heap own v (.int x))
    (k : ∀ s' vs', XB (one a) s s' → s'.heap.PlainList a (List.toArray vs') → IntsAre vs' (insR l x) → Q .none s') : wpAny C.M A (call (.ref ins) [.ref a, v]) Q E s := by
  obtain ⟨t0, hb⟩ := X.bindi
  refine wpAny_call (enter (ps := [(K "a", .at a), (K "x", .cl (.int x)), (K "lo", .cl (.int 0)), (K "hi", .cl .none), (K "key", .cl .none)]) (ch := one a) (lst := noL.set a (l.map .int)) o I X.hin.ok (binds_peek I.K (hb _ v)) (by rw [X.hin.scope]; rfl) (by rw [X.hin.scope]; rfl)
    (.cons ⟨rfl, ha, _, p⟩ (.cons rv (.cons ⟨_, rfl⟩ (.cons rfl (.cons rfl .nil))))) (fun b ds e => ?_) (fun s₁ env he hL hc W => ?_) (by rw [X.hin.scope]; rfl))
  · unfold Lst.set at e
    by_cases q : b = a
    · subst q
      rw [if_pos rfl] at e
      cases e
      exact ⟨ha, rfl, vs, p, rl⟩
    · rw [if_neg q] at e; cases e
  simp only [rhoOf] at W
  have o2 : Ok 4 (A.deeper env) := o.deeper
  have st : ∀ x, (scopeAt 2).names.lookup x = some .local → Stores env x := fun x e => .inl (ko he X.hin.scope e)
  have hl : noL.set a (l.map .int) a = some (l.map D.int) := by simp [Lst.set]
  walk_at "yes"; intro s₂ W
  refine sv_assign o2 W (PE.evi (x := K "a") (pe_call ⟨ko he X.hin.scope rfl, .inl X.nbr⟩ (pel_cons (pe_name (d := .il l) (by walk_at "nm")) (pel_cons (pe_name (d := .int x) (by walk_at "nm")) (pel_cons (pe_name (d := .int 0) (by walk_at "nm")) (pel_cons (pe_name (d := .none) (by walk_at "nm")) pel_nil))))
    ((br_spec4 X.toBFacts hs (by omega)).le (by decide)) (.inr (.inr X.hbr.atK))) W (by walk_at "nm") hl) (st _ rfl) fun s₃ W => ?_
  refine st_nil ?_
  refine st_insert o2 W (by walk_at "nm") (pel_cons (pe_name (d := .int (upto l x)) (by walk_at "nm")) (pel_cons (pe_name (d := .int x) (by walk_at "nm")) pel_nil)) hl (by simpa using hn) (by simpa using upto_le l x) (fun s₄ W => ?_) rfl (not_interactive W.F)
  refine st_nil ?_
  obtain ⟨_, us, pu, ru⟩ := W.F.lst a ((l.map D.int).take (upto l x) ++ D.int x :: (l.map D.int).drop (upto l x)) (by simp [Lst.set])
  refine k _ us W.x pu ?_
  have e : (l.map D.int).take (upto l x) ++ D.int x :: (l.map D.int).drop (upto l x) = (insR l x).map D.int := by
    unfold insR
    rw [List.map_append, List.map_cons, List.map_take, List.map_drop]
  rw [e] at ru
  exact RepL.il.mp ru
end
end Mine

-- part M8
namespace Mine
open PySem PySem.W PyProof.Rows

def slots (env : Env) (lst : Lst) : Addr → Prop := fun c => c = env.locals ∨ (∃ n, env.cells.lookup n = some c) ∨ ∃ ds, lst c = some ds

section
variable {C : Cx} {env : Env} {B : Org} {own own' : List Addr} {s s' : Shared} {ρ ρ' : Rho} {lst lst' : Lst}

theorem Fw.rebase (W : Fw C env B s own ρ lst) : Fw C env ⟨s, own, slots env lst⟩ s own ρ lst := ⟨W.I, W.F, .refl _ _, fun _ h => .inr h, fun _ m => .inl m, fun _ m => m⟩
theorem Fw.join (W : Fw C env B s own ρ lst) (W' : Fw C env ⟨s, own, slots env lst⟩ s' own' ρ' lst') : Fw C env B s' own' ρ' lst' where
  I := W'.I
  F := W'.F
  x := ⟨fun b o hb e => W'.x.keep b o (fun h => (W.new b h).elim (fun n => by rw [e] at n; cases n) hb) (W.x.keep b o hb e), fun b o e => let ⟨o', e'⟩ := W.x.live b o e; W'.x.live b o' e', W'.x.os.trans W.x.os, fun i v e => W'.x.gens i v (W.x.gens i v e), fun h => W'.x.bare (W.x.bare h)⟩
  new := fun c h => (W'.new c h).elim (fun n => .inl (W.x.dead n)) (W.new c)
  grow := fun a m => (W'.grow a m).elim (W.grow a) fun n => .inr (W.x.dead n)
  incl := fun a m => W'.incl a (W.incl a m)
theorem Fw.slotOwn (W : Fw C env B s own ρ lst) {c : Addr} (h : slots env lst c) : c ∈ own := by
  rcases h with rfl | ⟨n, e⟩ | ⟨ds, e⟩
  · exact W.F.lown
  · exact W.F.cown n c e
  · exact (W.F.lst c ds e).1
/-- a fresh address becomes own -/
theorem Fw.add (W : Fw C env B s own ρ lst) (x : XB no s s') {a : Addr} (n : s.heap.get? a = none) (l : ∃ o, s'.heap.get? a = some o) : Fw C env B s' (a :: own) ρ lst where
  I := W.I.cons n x l
  F := (W.F.more (l := [a]) (by intro b m; rw [List.mem_singleton.mp m]; exact n)).x0 x
  x := W.x.trans x.nil
  new := W.new
  grow := fun b m => by
    rcases List.mem_cons.mp m with rfl | m
    · exact .inr (W.x.dead n)
    · exact W.grow b m
  incl := fun b m => List.mem_cons_of_mem _ (W.incl b m)

/-- an object that holds fields alone: an iterator -/
def Fields (h : Heap) (a : Addr) : Prop := ∃ o fs, h.get? a = some o ∧ o.data = .fields fs
theorem Fields.notSlot {a : Addr} (f : Fields s.heap a) (W : Fw C env B s own ρ lst) : ¬ slots env lst a := by
  obtain ⟨o, fs, e, d⟩ := f
  rintro (rfl | ⟨n, q⟩ | ⟨ds, q⟩)
  · obtain ⟨m, o', es, ep, e', d', _⟩ := W.F.loc
    rw [e] at e'; cases e'; rw [d] at d'; cases d'
  · obtain ⟨v, o', e', d'⟩ := W.F.cel n a q
    rw [e] at e'; cases e'; rw [d] at d'; cases d'
  · obtain ⟨_, vs, ⟨m, e'⟩, _⟩ := W.F.lst a ds q
    rw [e] at e'; cases e'; cases d

/-- the heap turns at an own address that is no slot -/
theorem Frm.off {h h' : Heap} {a : Addr} (F : Frm C env h own ρ lst) (f : Fields h a) (ha : a ∈ own) (up : ∀ b o, b ≠ a → h.get? b = some o → h'.get? b = some o) (q : ∀ b ∈ own', b ∈ own) (hL : ∀ b ∈ own, b ≠ a → b ∈ own') : Frm C env h' own' ρ lst := by
  obtain ⟨o, fs, e, d⟩ := f
  have upo : ∀ b o, b ∉ own → h.get? b = some o → h'.get? b = some o := fun b o n e => up b o (fun z => n (z ▸ ha)) e
  have nL : env.locals ≠ a := fun z => by
    obtain ⟨m, o', es, ep, e', d', _⟩ := F.loc
    rw [z, e] at e'; cases e'; rw [d] at d'; cases d'
  have nC : ∀ c v, h.IsCell c v → c ≠ a := fun c v ⟨o', e', d'⟩ z => by rw [z, e] at e'; cases e'; rw [d] at d'; cases d'
  have nP : ∀ b its, h.PlainList b its → b ≠ a := fun b its ⟨m, e'⟩ z => by rw [z, e] at e'; cases e'; cases d
  have cell : ∀ c v, h.IsCell c v → h'.IsCell c v := fun c v hc => let ⟨o, e, d⟩ := hc; ⟨o, up c o (nC c v hc) e, d⟩
  refine ⟨F.kind, F.glob, F.bui, ?_, ?_, F.apart, F.ne, hL _ F.lown nL, fun n c e => ?_, fun x p e => ?_, fun b ds e => ?_⟩
  · obtain ⟨m, n⟩ := F.loc
    exact ⟨m, n.at' fun o e => up _ o nL e⟩
  · intro n c e
    obtain ⟨v, z⟩ := F.cel n c e
    exact ⟨v, cell c v z⟩
  · obtain ⟨v, z⟩ := F.cel n c e
    exact hL _ (F.cown n c e) (nC c v z)
  · obtain ⟨v, r, z⟩ := F.get x p e
    refine ⟨v, ?_, ?_⟩
    · rcases r with ⟨k, m, n, e⟩ | ⟨k, c, e, z⟩
      · exact .inl ⟨k, m, n.at' fun o e => up _ o nL e, e⟩
      · exact .inr ⟨k, c, e, cell c _ z⟩
    · cases p with
      | raw u => exact z
      | cl d => exact Rep.move d z upo fun b m => .inl (q b m)
      | «at» b =>
        obtain ⟨z1, z2, its, z3⟩ := z
        exact ⟨z1, hL b z2 (nP b its z3), its, z3.at fun o e => up b o (nP b its z3) e⟩
  · obtain ⟨m, vs, p, r⟩ := F.lst b ds e
    exact ⟨hL b m (nP b _ p), vs, p.at fun o e => up b o (nP b _ p) e, r.move ds upo fun b m => .inl (q b m)⟩

theorem Fw.off {a : Addr} {h' : Heap} {tk : Nat} (W : Fw C env B s own ρ lst) (f : Fields s.heap a) (ha : a ∈ own) (hd : B.s.heap.get? a = none) (up : ∀ b o, b ≠ a → s.heap.get? b = some o → h'.get? b = some o) (l : ∃ o, h'.get? a = some o) : Fw C env B { s with heap := h', toks := tk } own ρ lst where
  I := ⟨fun b o e => up b o (fun z => by have := W.I.off a ha; rw [← z, e] at this; cases this) (W.I.top b o e), fun b m => by
    by_cases z : b = a
    · rw [z]; exact l
    · obtain ⟨o, e⟩ := W.I.live b m; exact ⟨o, up b o z e⟩, W.I.off⟩
  F := W.F.off f ha up (fun _ m => m) fun _ m _ => m
  x := ⟨fun b o hb e => up b o (fun z => by rw [z, hd] at e; cases e) (W.x.keep b o hb e), fun b o e => by
    obtain ⟨o', e'⟩ := W.x.live b o e
    exact ⟨o', up b o' (fun z => by rw [z, hd] at e; cases e) e'⟩, W.x.os, W.x.gens, W.x.bare⟩
  new := W.new
  grow := W.grow
  incl := W.incl
theorem Fw.drop {a : Addr} {h' : Heap} {tk : Nat} (W : Fw C env B s own ρ lst) (f : Fields s.heap a) (ha : a ∈ own) (hd : B.s.heap.get? a = none) (hB : a ∉ B.own) (up : ∀ b o, b ≠ a → s.heap.get? b = some o → h'.get? b = some o) :
    Fw C env B { s with heap := h', toks := tk } (own.filter fun b => !(b == a)) ρ lst where
  I := ⟨fun b o e => up b o (fun z => by have := W.I.off a ha; rw [← z, e] at this; cases this) (W.I.top b o e), fun b m => by
    have m' := List.mem_filter.mp m
    obtain ⟨o, e⟩ := W.I.live b m'.1
    exact ⟨o, up b o (by simpa using m'.2) e⟩, fun b m => W.I.off b (List.mem_filter.mp m).1⟩
  F := W.F.off f ha up (fun _ m => (List.mem_filter.mp m).1) fun b m z => List.mem_filter.mpr ⟨m, by simpa using z⟩
  x := ⟨fun b o hb e => up b o (fun z => by rw [z, hd] at e; cases e) (W.x.keep b o hb e), fun b o e => by
    obtain ⟨o', e'⟩ := W.x.live b o e
    exact ⟨o', up b o' (fun z => by rw [z, hd] at e; cases e) e'⟩, W.x.os, W.x.gens, W.x.bare⟩
  new := W.new
  grow := fun b m => W.grow b (List.mem_filter.mp m).1
  incl := fun b m => List.mem_filter.mpr ⟨W.incl b m, by simp; rintro rfl; exact hB m⟩
end

/-- an iterator at I that hands out dat 0 .. dat (n - 1) -/
structure Src (C : Cx) (A : Around) (I : Addr) (n : Nat) (dat : Nat → D) (St : List Addr → Nat → Heap → Prop) : Prop where
  frame : ∀ own own' i h h', St own i h → (∀ b o, (b = I ∨ b ∉ own) → h.get? b = some o → h'.get? b = some o) → (∀ a ∈ own', a ∈ own ∨ h.get? a = none) → (∀ a ∈ own, a ∈ own') → St own' i h'
  item : ∀ own i s (Q : Option Value → Shared → Prop) (E : Value → Shared → Prop), i < n → I ∈ own → St own i s.heap →
    (∀ v h' tk, St own (i + 1) h' → (∀ b o, b ≠ I → s.heap.get? b = some o → h'.get? b = some o) → Rep C h' own v (dat i) → Q (some v) { s with heap := h', toks := tk }) → wpAny C.M A (pyNext (.ref I)) Q E s
  done : ∀ own s (Q : Option Value → Shared → Prop) (E : Value → Shared → Prop), St own n s.heap → (∀ h' tk, (∀ b o, b ≠ I → s.heap.get? b = some o → h'.get? b = some o) → Q none { s with heap := h', toks := tk }) → wpAny C.M A (pyNext (.ref I)) Q E s
  self : ∀ own i s (Q : Value → Shared → Prop) (E : Value → Shared → Prop), St own i s.heap → Q (.ref I) s → wpAny C.M A (pyIter (.ref I)) Q E s
  isf : ∀ own i h, St own i h → Fields h I

/-- what can be walked over -/
inductive IsSrc : D → Nat → (Nat → D) → Prop where
  | list {ds : List D} {n : Nat} {dat : Nat → D} : n = ds.length → (∀ i d, ds[i]? = some d → dat i = d) → IsSrc (.list ds) n dat
  | tuple {ds : List D} {n : Nat} {dat : Nat → D} : n = ds.length → (∀ i d, ds[i]? = some d → dat i = d) → IsSrc (.tuple ds) n dat
  | rng {a c : Int} {n : Nat} {dat : Nat → D} : (∀ i, i < n → dat i = .int (a + i * c)) → IsSrc (.rng a c n) n dat
  | str {x : Str} {n : Nat} {dat : Nat → D} : n = x.cps.size → (∀ i c, x.cps[i]? = some c → dat i = .str ⟨#[c]⟩) → IsSrc (.str x) n dat

section
variable {C : Cx} {n : Nat} {A : Around} {own : List Addr} {s : Shared}

theorem list_iter_fields {h : Heap} {I ax : Addr} {i : Nat} (a : h.IsListIter I ax i) : Fields h I := let ⟨o, e, _, d⟩ := a; ⟨o, _, e, d⟩
theorem tuple_iter_fields {h : Heap} {I ax : Addr} {i : Nat} (a : h.IsTupleIter I ax i) : Fields h I := let ⟨o, e, _, d⟩ := a; ⟨o, _, e, d⟩

theorem src_list (hh : A.handled = none) {I ax : Addr} {vs : List Value} {ds : List D} {dat : Nat → D} (hlen : vs.length = ds.length) (hdat : ∀ i d, ds[i]? = some d → dat i = d) (hne : ax ≠ I) :
    Src C A I ds.length dat (fun own i h => h.IsListIter I ax i ∧ h.IsList ax (List.toArray vs) ∧ RepL C h own vs ds ∧ ax ∉ own ∧ I ∈ own) where
  frame := fun own own' i h h' st k q r => by
    obtain ⟨a, b, c, d, e⟩ := st
    refine ⟨a.at fun o z => k _ o (.inl rfl) z, b.at fun o z => k _ o (.inr d) z, c.move ds (fun b o n z => k b o (.inr n) z) q, fun m => ?_, r _ e⟩
    obtain ⟨o, z, _⟩ := b
    rcases q _ m with m | m
    · exact d m
    · rw [z] at m; cases m
  item := fun own i s Q E hi hI st hQ => by
    obtain ⟨a, b, c, d, e⟩ := st
    obtain ⟨v, hv, rv⟩ := c.get i (ds[i]) (by simp [hi])
    refine wpAny_pyNext_list_item a b (x := v) (by simpa using hv) fun h' hit' hs' => ?_
    have up : ∀ b o, b ≠ I → s.heap.get? b = some o → h'.get? b = some o := fun b o z q => (hs'.2 b z).trans q
    have upo : ∀ b o, b ∉ own → s.heap.get? b = some o → h'.get? b = some o := fun b o z q => up b o (fun y => z (y ▸ e)) q
    refine hQ v h' s.toks ⟨hit', b.at fun o z => up _ o hne z, c.move ds upo fun _ m => .inl m, d, e⟩ up ?_
    rw [hdat i (ds[i]) (by simp [hi])]
    exact rv.move _ upo fun _ m => .inl m
  done := fun own s Q E st hQ => by
    obtain ⟨a, b, c, d, e⟩ := st
    exact wpAny_pyNext_list_end hh a b (by simp [hlen]) fun h' he' => hQ h' s.toks fun b o z q => he' b o z q
  self := fun own i s Q E st hQ => wpAny_pyIter_listiter st.1 hQ
  isf := fun own i h st => list_iter_fields st.1
theorem src_tuple (hh : A.handled = none) {I ax : Addr} {vs : List Value} {ds : List D} {dat : Nat → D} (hlen : vs.length = ds.length) (hdat : ∀ i d, ds[i]? = some d → dat i = d) (hne : ax ≠ I) :
    Src C A I ds.length dat (fun own i h => h.IsTupleIter I ax i ∧ h.IsTuple ax (List.toArray vs) ∧ RepL C h own vs ds ∧ ax ∉ own ∧ I ∈ own) where
  frame := fun own own' i h h' st k q r => by
    obtain ⟨a, b, c, d, e⟩ := st
    refine ⟨a.at fun o z => k _ o (.inl rfl) z, b.at fun o z => k _ o (.inr d) z, c.move ds (fun b o n z => k b o (.inr n) z) q, fun m => ?_, r _ e⟩
    obtain ⟨o, z, _⟩ := b
    rcases q _ m with m | m
    · exact d m
    · rw [z] at m; cases m
  item := fun own i s Q E hi hI st hQ => by
    obtain ⟨a, b, c, d, e⟩ := st
    obtain ⟨v, hv, rv⟩ := c.get i (ds[i]) (by simp [hi])
    refine wpAny_pyNext_tuple_item a b (x := v) (by simpa using hv) fun h' hit' hs' => ?_
    have up : ∀ b o, b ≠ I → s.heap.get? b = some o → h'.get? b = some o := fun b o z q => (hs'.2 b z).trans q
    have upo : ∀ b o, b ∉ own → s.heap.get? b = some o → h'.get? b = some o := fun b o z q => up b o (fun y => z (y ▸ e)) q
    refine hQ v h' s.toks ⟨hit', b.at fun o z => up _ o hne z, c.move ds upo fun _ m => .inl m, d, e⟩ up ?_
    rw [hdat i (ds[i]) (by simp [hi])]
    exact rv.move _ upo fun _ m => .inl m
  done := fun own s Q E st hQ => by
    obtain ⟨a, b, c, d, e⟩ := st
    exact wpAny_pyNext_tuple_end hh a b (by simp [hlen]) fun h' he' => hQ h' s.toks fun b o z q => he' b o z q
  self := fun own i s Q E st hQ => wpAny_pyIter_tupleiter st.1 hQ
  isf := fun own i h st => tuple_iter_fields st.1
theorem src_range (hh : A.handled = none) {I : Addr} {a c : Int} {n : Nat} {dat : Nat → D} (hdat : ∀ i : Nat, i < n → dat i = .int (a + i * c)) :
    Src C A I n dat (fun own i h => IsRangeIter h I (a + (i : Nat) * c) ((n : Int) - (i : Nat)) c ∧ I ∈ own) where
  frame := fun own own' i h h' st k q r => ⟨k I _ (.inl rfl) st.1, r _ st.2⟩
  item := fun own i s Q E hi hI st hQ => by
    refine wpAny_pyNext_range_item st.1 (by omega) fun h' hit' hs' => ?_
    refine hQ _ h' _ ⟨?_, st.2⟩ (fun b o z q => (hs'.2 b z).trans q) ?_
    · have e1 : a + ((i + 1 : Nat) : Int) * c = a + (i : Int) * c + c := by push_cast; rw [Int.add_mul, Int.one_mul, Int.add_assoc]
      have e2 : (n : Int) - ((i + 1 : Nat) : Int) = (n : Int) - (i : Int) - 1 := by push_cast; omega
      rw [e1, e2]; exact hit'
    · rw [hdat i hi]; exact ⟨_, rfl⟩
  done := fun own s Q E st hQ => wpAny_pyNext_range_end hh st.1 (by omega) fun h' he' => hQ h' s.toks fun b o z q => he' b o z q
  self := fun own i s Q E st hQ => wpAny_pyIter_rangeiter st.1 hQ
  isf := fun own i h st => ⟨_, _, st.1, rfl⟩

theorem src_str (hh : A.handled = none) {I : Addr} {x : Str} {t : Tok} {ty : String} {St' : Nat → Heap → Prop} (W : Walks C.prog C.w A I [I] [I] x.cps.size (SignAt x) St') (hf : ∀ i h, St' i h → h.IsStrIter I ty x t i) {dat : Nat → D} (hdat : ∀ i c, x.cps[i]? = some c → dat i = .str ⟨#[c]⟩) :
    Src C A I x.cps.size dat (fun own i h => St' i h ∧ I ∈ own) where
  frame := fun own own' i h h' st k q r => ⟨W.frame i h h' st.1 fun b hb o e => k b o (.inl (List.mem_singleton.mp hb)) e, r _ st.2⟩
  item := fun own i s Q E hi hI st hQ => by
    refine W.item i s Q E hi st.1 fun v h' tk hv st' up => hQ v h' tk ⟨st', st.2⟩ (fun b o z e => up b o (fun m => z (List.mem_singleton.mp m)) e) ?_
    obtain ⟨c, u, hc, rfl⟩ := hv
    rw [hdat i c hc]
    exact ⟨u, rfl⟩
  done := fun own s Q E st hQ => W.done s Q E st.1 fun h' tk up => hQ h' tk fun b o z e => up b o (fun m => z (List.mem_singleton.mp m)) e
  self := fun own i s Q E st hQ => W.self i s Q E st.1 hQ
  isf := fun own i h st => let ⟨o, e, _, d⟩ := hf i h st.1; ⟨o, _, e, d⟩

/-- iter(v) -/
theorem src_iter {v : Value} {d : D} {dat : Nat → D} {Q E : Value → Shared → Prop} (hh : A.handled = none) (I : Inv C s own) (r : Rep C s.heap own v d) (hd : IsSrc d n dat)
    (k : ∀ a s' St, XB no s s' → s.heap.get? a = none → (∃ o, s'.heap.get? a = some o) → Src C A a n dat St → St (a :: own) 0 s'.heap → Q (.ref a) s') : wpAny C.M A (pyIter v) Q E s := by
  have fr : ∀ b ∈ [s.heap.objs.size], s.heap.get? b = none := fun b m => by rw [List.mem_singleton.mp m]; exact get_size
  cases hd with
  | list hn hdat =>
    simp only [Rep] at r
    obtain ⟨ax, vs, rfl, ha, l, rl⟩ := r
    have hne : ax ≠ s.heap.objs.size := by obtain ⟨o, e, _⟩ := l; exact Nat.ne_of_lt (Heap.lt_size e)
    subst hn
    have up : ∀ b o, s.heap.get? b = some o → (s.heap.push { cls := .type "list_iterator", data := .fields #[.ref ax, .int 0 0] }).get? b = some o := fun b o e => Heap.get?_push_of_some _ e
    refine wpAny_pyIter_list l (k _ _ _ (.push _ _ _ _) get_size ⟨_, Heap.get?_push_size _ rfl⟩ (src_list hh rl.length hdat hne)
      ⟨⟨_, Heap.get?_push_size _ rfl, rfl, rfl⟩, l.at fun o e => up _ _ e, (rl.fresh fr).keeps up, fun m => (List.mem_cons.mp m).elim hne ha, List.mem_cons_self⟩)
  | tuple hn hdat =>
    simp only [Rep] at r
    obtain ⟨ax, vs, rfl, ha, l, rl⟩ := r
    have hne : ax ≠ s.heap.objs.size := by obtain ⟨o, e, _⟩ := l; exact Nat.ne_of_lt (Heap.lt_size e)
    subst hn
    have up : ∀ b o, s.heap.get? b = some o → (s.heap.push { cls := .type "tuple_iterator", data := .fields #[.ref ax, .int 0 0] }).get? b = some o := fun b o e => Heap.get?_push_of_some _ e
    refine wpAny_pyIter_tuple l (k _ _ _ (.push _ _ _ _) get_size ⟨_, Heap.get?_push_size _ rfl⟩ (src_tuple hh rl.length hdat hne)
      ⟨⟨_, Heap.get?_push_size _ rfl, rfl, rfl⟩, l.at fun o e => up _ _ e, (rl.fresh fr).keeps up, fun m => (List.mem_cons.mp m).elim hne ha, List.mem_cons_self⟩)
  | rng hdat =>
    simp only [Rep] at r
    obtain ⟨x, b, t, u, z, rfl, hx, hr, hsm, hsz⟩ := r
    refine wpAny_pyIter_range hr hsm (k _ _ _ (.push _ _ _ _) get_size ⟨_, Heap.get?_push_size _ rfl⟩ (src_range hh hdat) ⟨?_, List.mem_cons_self⟩)
    show IsRangeIter _ _ _ _ _
    rw [hsz]
    simpa using Heap.get?_push_size _ rfl
  | str hn hdat =>
    rename_i x
    simp only [Rep] at r
    obtain ⟨t, rfl⟩ := r
    subst hn
    cases ha : x.cps.all (· < 128)
    · exact wpAny_pyIter_wide ha (k _ _ _ (.push _ _ _ _) get_size ⟨_, Heap.get?_push_size _ rfl⟩ (src_str (t := t) hh (.strWide hh _ x t) (fun _ _ h => h) hdat) ⟨⟨_, Heap.get?_push_size _ rfl, rfl, rfl⟩, List.mem_cons_self⟩)
    · exact wpAny_pyIter_ascii ha (k _ _ _ (.push _ _ _ _) get_size ⟨_, Heap.get?_push_size _ rfl⟩ (src_str (t := t) hh (.strAscii hh _ x t) (fun _ _ h => h) hdat) ⟨⟨_, Heap.get?_push_size _ rfl, rfl, rfl⟩, List.mem_cons_self⟩)
end

section
variable {C : Cx} {m : Nat} {A : Around} {env : Env} {B : Org} {own : List Addr} {s : Shared} {ρ : Rho} {lst : Lst} {rest : List Stmt} {Q : Flow → Shared → Prop} {E : Value → Shared → Prop}

/-- one turn's item is taken -/
theorem Fw.taken {I : Addr} {h' : Heap} {tk : Nat} (W : Fw C env B s own ρ lst) (f : Fields s.heap I) (hI : I ∈ own) (hd : B.s.heap.get? I = none) (up : ∀ b o, b ≠ I → s.heap.get? b = some o → h'.get? b = some o) (l : Fields h' I) :
    Fw C env B { s with heap := h', toks := tk } own ρ lst := W.off f hI hd up (let ⟨o, _, e, _⟩ := l; ⟨o, e⟩)

/-- for x in iter -/
theorem st_for {x : Str} {px pos : Pos} {iter : Expr} {body : List Stmt} {d : D} {n : Nat} {dat : Nat → D} (J : Nat → Rho → Lst → Prop) (Jx : Rho → Lst → Prop) (o : Ok m A) (W : Fw C env B s own ρ lst)
    (he : EV C m env own s iter d) (hd : IsSrc d n dat) (hx : Stores env x) (h0 : J 0 ρ lst) (hn : ∀ ρ lst, J n ρ lst → Jx ρ lst)
    (turn : ∀ (B' : Org) (i : Nat) s' own' ρ' lst', i < n → J i ρ' lst' → Fw C env B' s' own' (ρ'.set x (.cl (dat i))) lst' → wpAny C.M A (execs body env) (fun f s'' => match f with
      | .next | .cont => ∃ own'' ρ'' lst'', Fw C env B' s'' own'' ρ'' lst'' ∧ J (i + 1) ρ'' lst''
      | .brk => ∃ own'' ρ'' lst'', Fw C env B' s'' own'' ρ'' lst'' ∧ Jx ρ'' lst''
      | .ret v => ∃ own'' ρ'' lst'', Fw C env B' s'' own'' ρ'' lst'' ∧ (∀ own'', Fw C env B s'' own'' ρ'' lst'' → Q (.ret v) s'')) (fun _ _ => False) s')
    (k : ∀ s' own' ρ' lst', Jx ρ' lst' → Fw C env B s' own' ρ' lst' → wpAny C.M A (execs rest env) Q E s')
    (hs : ∀ x, foldedSetIterable iter env x = pure x := by intro _; rfl) :
    wpAny C.M A (execs (.For (.Name x px) iter body [] pos :: rest) env) Q E s := by
  refine wpAny_execs_cons (wpAny_For (he A _ _ o fun v s₁ x₁ r => ?_) hs)
  have W₁ := W.x0 x₁
  refine src_iter o.handled W₁.I r hd fun a s₂ St x₂ n₂ l₂ S h₂ => ?_
  have W₂ := W₁.add x₂ n₂ l₂
  have hda : B.s.heap.get? a = none := W₁.x.dead n₂
  have hBa : a ∉ B.own := fun z => W₁.I.notOwn n₂ (W₁.incl a z)
  refine codeAny_forLoop (fun j s' => ∃ i own' ρ' lst', i ≤ n ∧ j = n - i ∧ Fw C env B s' own' ρ' lst' ∧ J i ρ' lst' ∧ a ∈ own' ∧ St own' i s'.heap) (fun j s' hJ => ?_) n ⟨0, _, ρ, lst, Nat.zero_le _, rfl, W₂, h0, List.mem_cons_self, h₂⟩
  obtain ⟨i, own', ρ', lst', hi, rfl, W', j', ha, st⟩ := hJ
  by_cases hlt : i < n
  · refine S.item own' i _ _ _ hlt ha st fun v h' tk st' up rv => ?_
    have W3 : Fw C env B { s' with heap := h', toks := tk } own' ρ' lst' := W'.taken (S.isf _ _ _ st) ha hda up (S.isf _ _ _ st')
    have hns := (S.isf _ _ _ st').notSlot (s := { s' with heap := h', toks := tk }) W3
    refine wpAny_assign_Name (store_name (p := .cl (dat i)) W3.rebase hx rv fun s₄ W₄ => ?_)
    refine wpAny_mono (turn _ i s₄ own' ρ' lst' hlt j' W₄) (fun f s₅ h₅ => ?_) fun _ _ q => q.elim
    have next : (∃ own'' ρ'' lst'', Fw C env ⟨{ s' with heap := h', toks := tk }, own', slots env lst'⟩ s₅ own'' ρ'' lst'' ∧ J (i + 1) ρ'' lst'') →
        ∃ j', j' < n - i ∧ ∃ i own' ρ' lst', i ≤ n ∧ j' = n - i ∧ Fw C env B s₅ own' ρ' lst' ∧ J i ρ' lst' ∧ a ∈ own' ∧ St own' i s₅.heap := by
      rintro ⟨own'', ρ'', lst'', W₅, j₅⟩
      refine ⟨n - (i + 1), by omega, i + 1, own'', ρ'', lst'', hlt, rfl, W3.join W₅, j₅, W₅.incl a ha, ?_⟩
      refine S.frame own' own'' (i + 1) _ _ st' (fun b o hb e => W₅.x.keep b o (fun hs => ?_) e) (fun b mb => (W₅.grow b mb).imp id id) W₅.incl
      rcases hb with rfl | hb
      · exact hns hs
      · exact hb (W3.slotOwn hs)
    cases f with
    | next => exact next h₅
    | cont => exact next h₅
    | brk =>
      obtain ⟨own'', ρ'', lst'', W₅, j₅⟩ := h₅
      exact k _ _ _ _ j₅ (W3.join W₅)
    | ret v =>
      obtain ⟨own'', ρ'', lst'', W₅, q⟩ := h₅
      exact q _ (W3.join W₅)
  · have e : i = n := by omega
    subst e
    refine S.done own' _ _ _ st fun h' tk up => ?_
    exact wpAny_execs_nil (k _ _ _ _ (hn _ _ j') (W'.drop (S.isf _ _ _ st) ha hda hBa up))
end
end Mine

-- part M9
namespace Mine
open PySem PySem.W PyProof.Rows

/-- an expression that makes a fresh list -/
def EL (C : Cx) (n : Nat) (env : Env) (own : List Addr) (s : Shared) (e : Expr) (ds : List D) : Prop :=
  ∀ (A : Around) (Q E : Value → Shared → Prop), Ok n A → (∀ a vs s', XB no s s' → s.heap.get? a = none → s'.heap.PlainList a (List.toArray vs) → RepL C s'.heap (a :: own) vs ds → Q (.ref a) s') → wpAny C.M A (eval e env) Q E s

section
variable {C : Cx} {n : Nat} {A : Around} {env : Env} {B : Org} {own : List Addr} {s s' : Shared} {ρ : Rho} {lst : Lst} {rest : List Stmt} {Q : Flow → Shared → Prop} {E : Value → Shared → Prop}

theorem Fw.addL (W : Fw C env B s own ρ lst) (x : XB no s s') {a : Addr} {vs : List Value} {ds : List D} (n : s.heap.get? a = none) (p : s'.heap.PlainList a (List.toArray vs)) (r : RepL C s'.heap (a :: own) vs ds) :
    Fw C env B s' (a :: own) ρ (lst.set a ds) := by
  have W' := W.add x n (let ⟨_, e⟩ := p; ⟨_, e⟩)
  refine ⟨W'.I, { W'.F with lst := fun b es e => ?_ }, W'.x, fun c hc => ?_, W'.grow, W'.incl⟩
  · unfold Lst.set at e
    by_cases q : b = a
    · subst q
      rw [if_pos rfl] at e
      cases e
      exact ⟨List.mem_cons_self, vs, p, r⟩
    · rw [if_neg q] at e
      exact W'.F.lst b es e
  · rcases hc with hc | hc | ⟨es, e⟩
    · exact W'.new c (.inl hc)
    · exact W'.new c (.inr (.inl hc))
    · unfold Lst.set at e
      by_cases q : c = a
      · subst q; exact .inl (W.x.dead n)
      · rw [if_neg q] at e; exact W'.new c (.inr (.inr ⟨es, e⟩))

/-- x = (a fresh list) -/
theorem sv_newlist {x : Str} {px pos : Pos} {e : Expr} {ds : List D} (o : Ok n A) (W : Fw C env B s own ρ lst) (he : EL C n env own s e ds) (hx : Stores env x)
    (k : ∀ s' a, s.heap.get? a = none → Fw C env B s' (a :: own) (ρ.set x (.at a)) (lst.set a ds) → wpAny C.M A (execs rest env) Q E s') (hs : swapsWith e (some (.Name x px)) pos.line env = pure false := by rfl) :
    wpAny C.M A (execs (.Assign [.Name x px] e pos :: rest) env) Q E s :=
  wpAny_execs_cons (wpAny_Assign_Name (he A _ _ o fun a vs s₁ x₁ n₁ p r => store_name (p := .at a) (W.addL x₁ n₁ p r) hx ⟨rfl, List.mem_cons_self, _, p⟩ fun s' => k s' a n₁) hs)

theorem el_nil {pos : Pos} : EL C n env own s (.List [] pos) [] := fun A Q E o k =>
  PyProof.Rows.List_ (wpAny_items_nil (wpAny_newObj_type (k _ [] _ (.push _ _ _ _) get_size ⟨0, Heap.get?_push_size _ rfl⟩ (by simp [RepL])) (by show 0 ≤ _; exact Nat.zero_le _)))

/-- a def that takes an own list, and one value beside -/
theorem call_at1 {f : Addr} {fd : FuncData} {i : Nat} {x fname : Str} {p px pos : Pos} {e : Expr} {d : D} {a : Addr} {Q E : Value → Shared → Prop} (o : Ok n A) (W : Fw C env B s own ρ lst) (g : GN C env fname (.ref f)) (hf : FnAt C i f fd)
    (hx : ρ x = some (.at a)) (he : PE C n env ρ e d) (k : ∀ v s₁, Fw C env B s₁ own ρ lst → Rep C s₁.heap own v d → wpAny C.M A (call (.ref f) [.ref a, v]) Q E s₁)
    (hd0 : (fname == ("__debug__" : Str)) = false := by decide) (hd : (x == ("__debug__" : Str)) = false := by decide) (hc : (x == ("__classdict__" : Str)) = false := by decide)
    (hse : starEach [.Name x px, e] env = [(false, eval (.Name x px) env), (false, eval e env)] := by rfl) :
    wpAny C.M A (eval (.Call (.Name fname p) [.Name x px, e] [] pos) env) Q E s := by
  refine wpAny_Call_NameR (gn_eval g W.I W.F ?_ hd0)
  obtain ⟨oc, od, osl, ha⟩ := hf.ok.at
  refine Calls.callWith_function (o := ⟨oc, od, .func fd, osl⟩) (fd := fd) ?_
  rw [hse]
  obtain ⟨v, r, rfl, _⟩ := W.F.get x _ hx
  refine Calls.evalArgs_plain (Calls.spliced_cons (wpAny_Name (r.load W.F.kind ?_ hc) hd))
  refine Calls.spliced_cons (he.use o W fun u s₁ x₁ ru => Calls.spliced_nil ⟨⟨(W.x0 x₁).I.K _ _ ha, rfl⟩, k u s₁ (W.x0 x₁) ru⟩)
end

-- _law_riffled, as a function
def places (sp : List Int) : List Int := sp.foldl insR []
def rifAt (P : List Int) (i : Int) : Int := if below P i < upto P i then (P.length : Int) - 1 - below P i else (P.length : Int) + i - below P i
def riffled (sp : List Int) (n : Nat) : List Int := (List.range n).map fun (i : Nat) => rifAt (places sp) i

theorem insR_length (l : List Int) (x : Int) : (insR l x).length = l.length + 1 := by
  unfold insR
  have := upto_le l x
  simp; omega
theorem upto_split {l : List Int} (hs : l.Pairwise (· ≤ ·)) (x : Int) : (∀ y ∈ l.take (upto l x), y ≤ x) ∧ ∀ y ∈ l.drop (upto l x), x < y := by
  induction l with
  | nil => simp
  | cons a l ih =>
    obtain ⟨h1, h2⟩ := List.pairwise_cons.mp hs
    by_cases ha : a ≤ x
    · have e : upto (a :: l) x = upto l x + 1 := by unfold upto; rw [List.filter_cons_of_pos (by simpa using ha), List.length_cons]
      rw [e]
      obtain ⟨i1, i2⟩ := ih h2
      refine ⟨fun y m => ?_, fun y m => ?_⟩
      · rw [List.take_succ_cons] at m
        rcases List.mem_cons.mp m with rfl | m
        · exact ha
        · exact i1 y m
      · rw [List.drop_succ_cons] at m
        exact i2 y m
    · have e : upto (a :: l) x = 0 := by
        unfold upto
        rw [List.length_eq_zero_iff, List.filter_eq_nil_iff]
        intro y m
        rcases List.mem_cons.mp m with rfl | m
        · simpa using ha
        · have := h1 y m; simp; omega
      rw [e]
      refine ⟨fun y m => by simp at m, fun y m => ?_⟩
      rw [List.drop_zero] at m
      rcases List.mem_cons.mp m with rfl | m
      · omega
      · have := h1 y m; omega
theorem insR_sorted {l : List Int} (hs : l.Pairwise (· ≤ ·)) (x : Int) : (insR l x).Pairwise (· ≤ ·) := by
  obtain ⟨h1, h2⟩ := upto_split hs x
  unfold insR
  rw [List.pairwise_append]
  refine ⟨hs.sublist (List.take_sublist ..), ?_, fun y m z mz => ?_⟩
  · rw [List.pairwise_cons]
    exact ⟨fun y m => Int.le_of_lt (h2 y m), hs.sublist (List.drop_sublist ..)⟩
  · rcases List.mem_cons.mp mz with rfl | mz
    · exact h1 y m
    · exact Int.le_trans (h1 y m) (Int.le_of_lt (h2 z mz))
theorem places_snoc (sp : List Int) (x : Int) : places (sp ++ [x]) = insR (places sp) x := by simp [places]
theorem places_facts (sp : List Int) : (places sp).Pairwise (· ≤ ·) ∧ (places sp).length = sp.length := by
  suffices h : ∀ (sp l : List Int), l.Pairwise (· ≤ ·) → (sp.foldl insR l).Pairwise (· ≤ ·) ∧ (sp.foldl insR l).length = l.length + sp.length by
    have := h sp [] List.Pairwise.nil
    simpa [places] using this
  intro sp
  induction sp with
  | nil => intro l hl; exact ⟨hl, by simp⟩
  | cons x sp ih =>
    intro l hl
    obtain ⟨a, b⟩ := ih (insR l x) (insR_sorted hl x)
    refine ⟨a, ?_⟩
    rw [List.foldl_cons, b, insR_length, List.length_cons]; omega
end Mine

-- part M10
namespace Mine
open PySem PySem.W PyProof.Rows

structure RFacts (C : Cx) (bl br ins rif : Addr) (fl fr fi ff : FuncData) : Prop extends IFacts C bl br ins fl fr fi where
  hrif : FnAt C 11 rif ff
  nrif : C.mg (K "_law_riffled") = some (.ref rif)
  range : C.mg (K "range") = none
  range' : C.mb (K "range") = some (.type "range")
  bindf : ∀ u v S, peek C.K S (bindArgs ff ⟨[u, v], []⟩) = some [(K "spots", u), (K "size", v)]

local macro_rules | `(tactic| walk_at "nm") => `(tactic| repeat' (first | assumption | exact Rho.same | exact Rho.bor_same | refine Rho.bor_ne (by decide) ?_ | refine Rho.ne (by decide) ?_))

theorem Lst.same {l : Lst} {a : Addr} {ds : List D} : (l.set a ds) a = some ds := by simp [Lst.set]
theorem Lst.ne {l : Lst} {a b : Addr} {ds : List D} {q : Option (List D)} (h : b ≠ a) (e : l b = q) : (l.set a ds) b = q := by simp [Lst.set, h, e]

section
variable {C : Cx} {bl br ins rif : Addr} {fl fr fi ff : FuncData}
theorem rif_spec (X : RFacts C bl br ins rif fl fr fi ff) {sp : List Int} {n : Nat} (hs : sp.length < 2 ^ 19) (hn : n < 2 ^ 19) : OpN C 8 (.ref rif) [.il sp, .int n] (.il (riffled sp n)) := by
  intro A own s vs Q E o I r k
  simp only [RepL] at r
  obtain ⟨u, _, rfl, ru, v, _, rfl, rv, rfl⟩ := r
  refine wpAny_call (enter (ps := [(K "spots", .cl (.il sp)), (K "size", .cl (.int n))]) (ch := no) (lst := noL) o I X.hrif.ok (binds_peek I.K (X.bindf u v)) (by rw [X.hrif.scope]; rfl) (by rw [X.hrif.scope]; rfl)
    (.cons ru (.cons rv .nil)) (fun _ _ e => by cases e) (fun s₁ env he hL hc W => ?_) (by rw [X.hrif.scope]; rfl))
  simp only [rhoOf] at W
  have o2 : Ok 7 (A.deeper env) := o.deeper
  have st : ∀ x, (scopeAt 11).names.lookup x = some .local → Stores env x := fun x e => .inl (ko he X.hrif.scope e)
  have gl : ∀ {x v}, (scopeAt 11).names.lookup x = some .globalImplicit → (C.mg x = some v ∨ (C.mg x = none ∧ C.mb x = some v)) → GN C env x v := fun e h => ⟨ko he X.hrif.scope e, h⟩
  refine sv_newlist o2 W el_nil (st _ rfl) fun s₂ p hp W => ?_
  refine st_for (J := fun i ρ lst => ρ (K "places") = some (.at p) ∧ ρ (K "size") = some (.cl (.int n)) ∧ lst p = some ((places (sp.take i)).map .int)) (Jx := fun ρ lst => ρ (K "places") = some (.at p) ∧ ρ (K "size") = some (.cl (.int n)) ∧ lst p = some ((places sp).map .int))
    (d := .il sp) (n := sp.length) (dat := fun i => .int (sp.getD i 0)) o2 W (PE.ev (pe_name (by walk_at "nm")) W) (.list (by simp) (fun i d e => ?_)) (st _ rfl) ⟨by walk_at "nm", by walk_at "nm", Lst.same⟩ (fun ρ lst h => by rw [List.take_length] at h; exact h) ?turn ?k
  case turn =>
    rintro B' i s₃ own₃ ρ lst hi ⟨h1, h2, h3⟩ W
    refine wpAny_execs_cons (wpAny_Expr (call_at1 o2 W (gl rfl (.inl X.nin)) X.hin (by walk_at "nm") (pe_name (d := .int (sp.getD i 0)) (by walk_at "nm")) fun v s₄ W r => ?_) (not_interactive W.F) rfl)
    obtain ⟨ha, us, q, ru⟩ := W.F.lst p _ h3
    have pf := places_facts (sp.take i)
    refine ins_spec X.toIFacts pf.1 (by rw [pf.2, List.length_take]; omega) (o2.le (by decide)) W.I ha q ru r fun s₅ vs' x₅ q' iv => ?_
    have W := W.turnX (ds' := (places (sp.take (i + 1))).map .int) h3 q q' x₅ (RepL.il.mpr (by
      rw [List.take_succ_eq_append_getElem hi, places_snoc]
      have : sp.getD i 0 = sp[i] := by simp [List.getD_eq_getElem?_getD, List.getElem?_eq_getElem hi]
      rw [this] at iv
      exact iv))
    exact st_nil ⟨_, _, _, W, by walk_at "nm", by walk_at "nm", Lst.same⟩
  case k =>
    rintro s₃ own₃ ρ lst ⟨h1, h2, h3⟩ W
    have hW := W
    have pf := places_facts sp
    generalize hP : places sp = P at pf h3
    have hPn : P.length < 2 ^ 19 := by rw [pf.2]; exact hs
    refine sv_newlist o2 W el_nil (st _ rfl) fun s₄ dk hd W => ?_
    have hne : p ≠ dk := fun e => by
      obtain ⟨_, us, ⟨_, q⟩, _⟩ := hW.F.lst p _ h3
      rw [e, hd] at q; cases q
    refine st_for (J := fun i ρ lst => ρ (K "places") = some (.at p) ∧ ρ (K "size") = some (.cl (.int n)) ∧ ρ (K "deck") = some (.at dk) ∧ lst p = some (P.map .int) ∧ lst dk = some (((List.range i).map fun (i : Nat) => rifAt P i).map .int))
      (Jx := fun ρ lst => ρ (K "deck") = some (.at dk) ∧ lst dk = some (((List.range n).map fun (i : Nat) => rifAt P i).map .int))
      (d := .rng 0 1 n) (n := n) (dat := fun i => .int i) o2 W (PE.ev (pe_call (gl rfl (.inr ⟨X.range, X.range'⟩)) (pel_cons (pe_name (d := .int n) (by walk_at "nm")) pel_nil) (opn_range1 (by omega) (by omega) (by omega)) (.inr (.inl ⟨_, rfl⟩))) W) (.rng (fun i _ => by simp)) (st _ rfl)
      ⟨by walk_at "nm", by walk_at "nm", by walk_at "nm", Lst.ne hne h3, Lst.same⟩ (fun ρ lst h => ⟨h.2.2.1, h.2.2.2.2⟩) ?turn2 ?k2
    case turn2 =>
      rintro B' i s₅ own₅ ρ lst hi ⟨h1, h2, h3, h4, h5⟩ W
      refine sv_assign o2 W (PE.evi (x := K "places") (pe_call (gl rfl (.inl X.nbl)) (pel_cons (pe_name (d := .il P) (by walk_at "nm")) (pel_cons (pe_name (d := .int i) (by walk_at "nm")) pel_nil))
        ((bl_spec X.toBFacts pf.1 (by omega)).le (by decide)) (.inr (.inr X.hbl.atK))) W (by walk_at "nm") h4) (st _ rfl) fun s₆ W => ?_
      refine sv_if o2 W (PT.tvi (x := K "places") (pt_cmp (pe_name (d := .int (below P i)) (by walk_at "nm")) (pe_call (gl rfl (.inl X.nbr)) (pel_cons (pe_name (d := .il P) (by walk_at "nm")) (pel_cons (pe_name (d := .int i) (by walk_at "nm")) pel_nil))
        ((br_spec X.toBFacts pf.1 (by omega)).le (by decide)) (.inr (.inr X.hbr.atK))) op_lt) W (by walk_at "nm") h4) fun s₇ W => ⟨fun hlt => ?_, fun hlt => ?_⟩
      · have hlt := of_decide_eq_true hlt
        refine sv_append o2 W (by walk_at "nm") (PE.evi (x := K "places") (pe_bin (pe_bin (pe_call (gl rfl (.inr ⟨X.len, X.len'⟩)) (pel_cons (pe_name (d := .il P) (by walk_at "nm")) pel_nil) (opn_len (by simp; omega)) (.inl ⟨_, rfl⟩)) pe_int op_sub) (pe_name (d := .int (below P i)) (by walk_at "nm")) op_sub) W (by walk_at "nm") h4)
          h5 (by simp; omega) (fun s₈ W => ?_) (not_interactive W.F)
        refine st_nil (st_nil ⟨_, _, _, W, by walk_at "nm", by walk_at "nm", by walk_at "nm", Lst.ne hne h4, ?_⟩)
        rw [Lst.same, List.range_succ, List.map_append, List.map_append]
        simp only [List.map_cons, List.map_nil, rifAt]
        rw [if_pos (by omega), List.length_map]
      · have hlt := of_decide_eq_false hlt
        refine sv_append o2 W (by walk_at "nm") (PE.evi (x := K "places") (pe_bin (pe_bin (pe_call (gl rfl (.inr ⟨X.len, X.len'⟩)) (pel_cons (pe_name (d := .il P) (by walk_at "nm")) pel_nil) (opn_len (by simp; omega)) (.inl ⟨_, rfl⟩)) (pe_name (d := .int i) (by walk_at "nm")) op_add) (pe_name (d := .int (below P i)) (by walk_at "nm")) op_sub) W (by walk_at "nm") h4)
          h5 (by simp; omega) (fun s₈ W => ?_) (not_interactive W.F)
        refine st_nil (st_nil ⟨_, _, _, W, by walk_at "nm", by walk_at "nm", by walk_at "nm", Lst.ne hne h4, ?_⟩)
        rw [Lst.same, List.range_succ, List.map_append, List.map_append]
        simp only [List.map_cons, List.map_nil, rifAt]
        rw [if_neg (by omega), List.length_map]
    case k2 =>
      rintro s₅ own₅ ρ lst ⟨h1, h2⟩ W
      refine st_returnAt W h1 ?_
      obtain ⟨hm, us, q, ru⟩ := W.F.lst dk _ h2
      refine k _ _ W.x ?_
      simp only [Rep]
      refine ⟨dk, us, rfl, fun m => ?_, q.isList, ?_⟩
      · have := W.new dk (.inr (.inr ⟨_, h2⟩))
        obtain ⟨o', e'⟩ := I.live dk m
        rcases this with z | z
        · rw [e'] at z; cases z
        · exact z
      · have e : riffled sp n = (List.range n).map fun (i : Nat) => rifAt P i := by unfold riffled; rw [hP]
        rw [e]
        exact ru.less W.incl
  · simp at e
    obtain ⟨y, e1, e2⟩ := e
    rw [← e2, List.getD_eq_getElem?_getD, e1]; rfl
end
end Mine

-- part M11
namespace Mine
open PySem PySem.W PyProof.Rows

/-- a pure expression that makes a fresh list -/
def PL (C : Cx) (n : Nat) (env : Env) (ρ : Rho) (e : Expr) (ds : List D) : Prop :=
  ∀ (own : List Addr) (lst : Lst) (s : Shared), Inv C s own → Frm C env s.heap own ρ lst → EL C n env own s e ds

section
variable {C : Cx} {n : Nat} {env : Env} {ρ : Rho}

theorem PL.el {B : Org} {own : List Addr} {s : Shared} {lst : Lst} {e : Expr} {ds : List D} (h : PL C n env ρ e ds) (W : Fw C env B s own ρ lst) : EL C n env own s e ds := h own lst s W.I W.F
theorem PL.pe {e : Expr} {ds : List D} (h : PL C n env ρ e ds) : PE C n env ρ e (.list ds) := by
  intro A own lst s Q E o I F k
  refine h own lst s I F A Q E o fun a vs s' x n p r => k _ _ x ?_
  simp only [Rep]
  exact ⟨a, vs, rfl, I.notOwn n, p.isList, r.less fun b m => List.mem_cons_of_mem _ m⟩

theorem pl_call {x : Str} {p pos : Pos} {e : Expr} {es : List Expr} {T : String} {ds : List D} {rs : List D} (g : GN C env x (.type T)) (ha : PEL C n env ρ (e :: es) ds)
    (op : ∀ (A : Around) (own : List Addr) (s : Shared) (vs : List Value) (Q E : Value → Shared → Prop), Ok n A → Inv C s own → RepL C s.heap own vs ds →
      (∀ a us s', XB no s s' → s.heap.get? a = none → s'.heap.PlainList a (List.toArray us) → RepL C s'.heap (a :: own) us rs → Q (.ref a) s') → wpAny C.M A (call (.type T) vs) Q E s)
    (hd : (x == ("__debug__" : Str)) = false := by decide)
    (he : starEach (e :: es) env = (false, eval e env) :: starEach es env := by rfl) (hp : (backTo pos (starEach es env)).any (·.1) = false := by rfl) :
    PL C n env ρ (.Call (.Name x p) (e :: es) [] pos) rs := by
  intro own lst s I F A Q E o k
  refine wpAny_Call_NameR (gn_eval g I F ?_ hd)
  exact Pv.callWith_type1 (ha pos A own lst s _ _ o I F fun vs s₁ x₁ r₁ => op A own s₁ vs _ _ o (I.x0 x₁) r₁ fun a us s₂ x₂ n₂ p r => k a us s₂ (x₁.trans x₂) (x₁.dead n₂) p r) he hp

theorem ints_of_items {C : Cx} {h : Heap} {own : List Addr} {a c : Int} : ∀ (n : Nat) {l : List Value}, l.length = n → (∀ (j : Nat) v, l[j]? = some v → ∃ t, v = .int (a + j * c) t) → RepL C h own l ((List.range n).map fun (j : Nat) => D.int (a + j * c)) := by
  intro n
  induction n with
  | zero => intro l hl _; rw [List.length_eq_zero_iff] at hl; subst hl; simp [RepL]
  | succ n ih =>
    intro l hl hg
    have hne : l ≠ [] := by rintro rfl; simp at hl
    have e := List.dropLast_concat_getLast hne
    rw [← e, List.range_succ, List.map_append]
    have hd : l.dropLast.length = n := by simp [hl]
    refine (ih hd fun j v hj => ?_).append ?_
    · have hj' : j < n := by rw [← hd]; exact (List.getElem?_eq_some_iff.mp hj).1
      exact hg j v (by rw [← e, List.getElem?_append_left (by rw [hd]; exact hj')]; exact hj)
    · obtain ⟨t, ht⟩ := hg n (l.getLast hne) (by rw [List.getLast_eq_getElem]; simp [hl])
      rw [ht]
      exact RepL.single (by simp only [Rep]; exact ⟨t, rfl⟩)

/-- list(range(..)) -/
theorem pl_list_range {x : Str} {p pos : Pos} {e : Expr} {a c : Int} {m : Nat} (g : GN C env x (.type "list")) (he' : PE C n env ρ e (.rng a c m)) (hm : m ≤ 2 ^ 20)
    (hd : (x == ("__debug__" : Str)) = false := by decide) (he : starEach [e] env = [(false, eval e env)] := by rfl) :
    PL C n env ρ (.Call (.Name x p) [e] [] pos) ((List.range m).map fun (j : Nat) => D.int (a + j * c)) := by
  refine pl_call g (pel_cons he' pel_nil he) (fun A own s vs Q E o I r k => ?_) hd he rfl
  simp only [RepL, Rep] at r
  obtain ⟨_, _, rfl, ⟨q, b, t, u, z, rfl, hq, hr, hsm, hsz⟩, rfl⟩ := r
  refine call_list_range o.handled hr hsm hsz (by omega) fun h' tk acc' c' up hg it => ?_
  refine k _ acc'.toList _ (.of_heap up) get_size ⟨c', by simpa using hg⟩ (ints_of_items m (by simpa using it.1) fun j v hj => it.2 j v (by simpa using hj))

theorem size_down {a b : Int} {m : Nat} (h : m = (a - b).toNat) : Builtin.Range.rangeSize a b (-1) = (m : Int) := by
  unfold Builtin.Range.rangeSize
  rw [if_neg (by decide)]
  split
  · rw [show (- -1 : Int) = 1 by decide, Int.ediv_one]; omega
  · omega
theorem small_down {a b : Int} (ha : -(2 ^ 61) ≤ a) (ha' : a < 2 ^ 61) (hb : -(2 ^ 61) ≤ b) (hb' : b < 2 ^ 61) : Builtin.Range.small a b (-1) = true := by
  unfold Builtin.Range.small
  rw [size_down rfl]
  simp only [Builtin.Range.rangeFitsLong, Bool.and_eq_true, Bool.or_eq_true, decide_eq_true_eq, beq_iff_eq]
  refine ⟨⟨⟨⟨⟨by omega, by omega⟩, ⟨by omega, by omega⟩⟩, by decide⟩, ⟨by omega, by omega⟩⟩, .inr ?_⟩
  rw [if_neg (by decide)]
  simp only [Bool.and_eq_true, decide_eq_true_eq]
  omega
theorem opn_range_down {a b : Int} {m : Nat} (ha : -(2 ^ 61) ≤ a) (ha' : a < 2 ^ 61) (hb : -(2 ^ 61) ≤ b) (hb' : b < 2 ^ 61) (hm : m = (a - b).toNat) : OpN C n (.type "range") [.int a, .int b, .int (-1)] (.rng a (-1) m) := by
  intro A own s vs Q E o I r k
  simp only [RepL, Rep] at r
  obtain ⟨_, _, rfl, ⟨t, rfl⟩, _, _, rfl, ⟨u, rfl⟩, _, _, rfl, ⟨z, rfl⟩, rfl⟩ := r
  refine PySem.call_range_3 (by decide) (k _ _ (.push _ _ _ _) ?_) (.inl (PyProof.noPylong_small (by decide)))
  simp only [Rep]
  exact ⟨_, b, _, _, _, rfl, I.notOwn get_size, .new _ _ _ _ _ _ _, small_down ha ha' hb hb', size_down hm⟩
end
end Mine

-- part M12
namespace Mine
open PySem PySem.W PyProof.Rows

section
variable {C : Cx} {env : Env} {own own' : List Addr} {ρ ρ' : Rho} {lst lst' : Lst}

/-- the heap turns at an own address that is no slot -/
theorem Frm.offS {h h' : Heap} {a : Addr} (F : Frm C env h own ρ lst) (ha : a ∈ own) (nL : env.locals ≠ a) (nC : ∀ n c, env.cells.lookup n = some c → c ≠ a) (nR : ∀ x b, ρ x = some (.at b) → b ≠ a) (nP : ∀ b ds, lst b = some ds → b ≠ a)
    (up : ∀ b o, b ≠ a → h.get? b = some o → h'.get? b = some o) (q : ∀ b ∈ own', b ∈ own) (hL : ∀ b ∈ own, b ≠ a → b ∈ own') : Frm C env h' own' ρ lst := by
  have upo : ∀ b o, b ∉ own → h.get? b = some o → h'.get? b = some o := fun b o n e => up b o (fun z => n (z ▸ ha)) e
  have cell : ∀ c v, c ≠ a → h.IsCell c v → h'.IsCell c v := fun c v n hc => let ⟨o, e, d⟩ := hc; ⟨o, up c o n e, d⟩
  refine ⟨F.kind, F.glob, F.bui, ?_, ?_, F.apart, F.ne, hL _ F.lown nL, fun n c e => hL _ (F.cown n c e) (nC n c e), fun x p e => ?_, fun b ds e => ?_⟩
  · obtain ⟨m, n⟩ := F.loc
    exact ⟨m, n.at' fun o e => up _ o nL e⟩
  · intro n c e
    obtain ⟨v, z⟩ := F.cel n c e
    exact ⟨v, cell c v (nC n c e) z⟩
  · obtain ⟨v, r, z⟩ := F.get x p e
    refine ⟨v, ?_, ?_⟩
    · rcases r with ⟨k, m, n, e⟩ | ⟨k, c, e, z⟩
      · exact .inl ⟨k, m, n.at' fun o e => up _ o nL e, e⟩
      · exact .inr ⟨k, c, e, cell c _ (nC x c e) z⟩
    · cases p with
      | raw u => exact z
      | cl d => exact Rep.move d z upo fun b m => .inl (q b m)
      | «at» b =>
        obtain ⟨z1, z2, its, z3⟩ := z
        exact ⟨z1, hL b z2 (nR x b e), its, z3.at fun o z => up b o (nR x b e) z⟩
  · obtain ⟨m, vs, p, r⟩ := F.lst b ds e
    exact ⟨hL b m (nP b ds e), vs, p.at fun o z => up b o (nP b ds e) z, r.move ds upo fun b m => .inl (q b m)⟩
theorem Frm.weak {h : Heap} (F : Frm C env h own ρ lst) (k : ∀ x p, ρ' x = some p → ρ x = some p) : Frm C env h own ρ' lst := { F with get := fun x p e => F.get x p (k x p e) }

/-- what a block inside sees of the names around -/
def Rho.only (ρ : Rho) (fr : List Str) : Rho := fun y => if fr.contains y then ρ y else none
theorem Rho.only_in {x : Str} {fr : List Str} {q : Option Sp} (h : fr.contains x = true) (e : ρ x = q) : (ρ.only fr) x = q := by unfold Rho.only; rw [if_pos h, e]

/-- a block's own scope: its free names have cells around -/
structure CS (env : Env) (scope : Scope) (cl : List (Str × Addr)) (fr : List Str) : Prop where
  clos : closureFor scope env = pure cl
  cell : ∀ y ∈ scope.names, y.2 ≠ .cell
  kind : scope.kind = .function
  names : ∀ y ∈ scope.names, y.2 = .local → scope.names.lookup y.1 = some .local
  sub : ∀ n c, cl.lookup n = some c → env.cells.lookup n = some c
  fre : ∀ y, fr.contains y = true → scope.names.lookup y = some .free ∧ env.kindOf y ≠ some .local ∧ ∃ c, cl.lookup y = some c

def freeOf (scope : Scope) : List Str := (scope.names.filter fun x => x.2 == .free).map (·.1)
def closGo (env : Env) : List (Str × NameKind) → List (Str × Addr) → List (Str × Addr)
  | [], cs => cs
  | (n, k) :: r, cs => closGo env r (if k == .free then (match env.cells.lookup n with | some a => (n, a) :: cs | none => cs) else cs)
theorem closGo_eq : ∀ (names : List (Str × NameKind)) (cs : List (Str × Addr)), (∀ x ∈ names, x.2 = .free → (env.cells.lookup x.1).isSome = true) →
    (forIn names cs fun x r => (if (x.2 == NameKind.free) = true then (do let a ← cellOf env x.1; pure (ForInStep.yield ((x.1, a) :: r))) else pure (ForInStep.yield r) : Sem (ForInStep (List (Str × Addr))))) = pure (closGo env names cs)
  | [], cs, _ => rfl
  | (n, k) :: r, cs, h => by
    rw [List.forIn_cons]
    unfold closGo
    by_cases hk : k = .free
    · subst hk
      obtain ⟨c, hc⟩ := Option.isSome_iff_exists.mp (h (n, .free) List.mem_cons_self rfl)
      have e : cellOf env n = pure c := by unfold cellOf; rw [hc]
      have e' : (pure c : Sem Addr) >>= (fun a => pure (ForInStep.yield ((n, a) :: cs))) = (pure (ForInStep.yield ((n, c) :: cs)) : Sem (ForInStep (List (Str × Addr)))) := rfl
      simp only [beq_self_eq_true, if_true, e, hc, e']
      exact closGo_eq r _ fun x hx => h x (List.mem_cons_of_mem _ hx)
    · have : (k == NameKind.free) = false := by simpa using hk
      simp only [this, Bool.false_eq_true, if_false]
      exact closGo_eq r _ fun x hx => h x (List.mem_cons_of_mem _ hx)
theorem closGo_sub : ∀ (names : List (Str × NameKind)) (cs : List (Str × Addr)) (n : Str) (c : Addr), (closGo env names cs).lookup n = some c → (∀ n c, cs.lookup n = some c → env.cells.lookup n = some c) → env.cells.lookup n = some c
  | [], cs, n, c, e, H => H n c e
  | (m, k) :: r, cs, n, c, e, H => by
    refine closGo_sub r _ n c e fun n' c' e' => ?_
    split at e'
    · split at e'
      · rename_i a ha
        rw [List.lookup_cons] at e'
        split at e'
        · rename_i hb
          have : n' = m := by simpa using hb
          cases e'; rw [this]; exact ha
        · exact H _ _ e'
      · exact H _ _ e'
    · exact H _ _ e'
theorem closGo_has : ∀ (names : List (Str × NameKind)) (cs : List (Str × Addr)) (y : Str), ((∃ c, cs.lookup y = some c) ∨ ((y, NameKind.free) ∈ names ∧ (env.cells.lookup y).isSome = true)) → ∃ c, (closGo env names cs).lookup y = some c
  | [], cs, y, h => by
    rcases h with h | h
    · exact h
    · cases h.1
  | (m, k) :: r, cs, y, h => by
    unfold closGo
    refine closGo_has r _ y ?_
    rcases h with ⟨c, h⟩ | ⟨h, hs⟩
    · left
      split
      · split
        · rw [List.lookup_cons]; split
          · exact ⟨_, rfl⟩
          · exact ⟨c, h⟩
        · exact ⟨c, h⟩
      · exact ⟨c, h⟩
    · rcases List.mem_cons.mp h with e | h
      · cases e
        left
        obtain ⟨c, hc⟩ := Option.isSome_iff_exists.mp hs
        simp [hc]
      · exact .inr ⟨h, hs⟩
theorem CS.of {scope : Scope} (h' : ∀ y ∈ freeOf scope, env.kindOf y ≠ some .local ∧ (env.cells.lookup y).isSome = true)
    (hb : (scope.names.all (fun y => !(y.2 == NameKind.cell)) && scope.names.all (fun y => !(y.2 == NameKind.local) || scope.names.lookup y.1 == some .local) && scope.names.all (fun y => !(y.2 == NameKind.free) || scope.names.lookup y.1 == some .free)) = true := by rfl)
    (hk : scope.kind = .function := by rfl) : CS env scope (closGo env scope.names []) (freeOf scope) where
  clos := by
    have h := fun y m => (h' y m).2
    unfold closureFor
    have := closGo_eq (env := env) scope.names [] fun x hx e => h x.1 (List.mem_map.mpr ⟨x, List.mem_filter.mpr ⟨hx, by simp [e]⟩, rfl⟩)
    simpa using this
  cell := by
    simp only [Bool.and_eq_true, List.all_eq_true] at hb
    exact fun y hy => by simpa using hb.1.1 y hy
  kind := hk
  names := by
    simp only [Bool.and_eq_true, List.all_eq_true] at hb
    exact fun y hy e => by simpa [e] using hb.1.2 y hy
  sub := fun n c e => closGo_sub _ _ n c e fun _ _ e => by simp at e
  fre := fun y hy => by
    simp only [Bool.and_eq_true, List.all_eq_true] at hb
    have hm : y ∈ freeOf scope := by simpa using hy
    obtain ⟨⟨z, k⟩, hz, rfl⟩ := List.mem_map.mp hm
    obtain ⟨hz, hk⟩ := List.mem_filter.mp hz
    have hk : k = .free := by simpa using hk
    subst hk
    exact ⟨by simpa using hb.2 _ hz, (h' _ hm).1, closGo_has _ _ _ (.inr ⟨hz, (h' _ hm).2⟩)⟩

theorem lookup_relabel_free : ∀ {names : List (Str × NameKind)} {x : Str}, names.lookup x = some .free →
    (names.map fun (n, k) => if (k == NameKind.free && env.scope.kind == .function && env.kindOf n == some .cell) then (n, NameKind.cell) else (n, k)).lookup x = some .cell ∨
    (names.map fun (n, k) => if (k == NameKind.free && env.scope.kind == .function && env.kindOf n == some .cell) then (n, NameKind.cell) else (n, k)).lookup x = some .free
  | [], _, h => by simp at h
  | (n, k) :: r, x, h => by
    have ih := @lookup_relabel_free r x
    rw [List.map_cons]
    cases hx : x == n with
    | true =>
      simp only [List.lookup_cons, hx] at h
      cases h
      dsimp only
      split <;> simp [List.lookup_cons, hx]
    | false =>
      simp only [List.lookup_cons, hx] at h
      dsimp only
      split <;> (simp only [List.lookup_cons, hx]; exact ih h)

/-- the frame of the block inside -/
theorem Frm.inner {scope : Scope} {cl : List (Str × Addr)} {fr : List Str} {h : Heap} {c₀ : Addr} (F : Frm C env h own ρ lst) (S : CS env scope cl fr) (hc : c₀ ∈ own) (hn : ∃ m, h.Ns c₀ m) (hne : ∀ n c, env.cells.lookup n = some c → c ≠ c₀) :
    Frm C (compEnvC scope cl c₀ env) h own (ρ.only fr) lst where
  kind := S.kind
  glob := F.glob
  bui := F.bui
  loc := hn
  cel := fun n c e => F.cel n c (S.sub n c e)
  apart := fun n n' c e e' => F.apart n n' c (S.sub n c e) (S.sub n' c e')
  ne := fun n c e => hne n c (S.sub n c e)
  lown := hc
  cown := fun n c e => F.cown n c (S.sub n c e)
  get := fun x p e => by
    unfold Rho.only at e
    split at e
    · rename_i hx
      obtain ⟨hk, hnl, c, hcl⟩ := S.fre x hx
      obtain ⟨v, r, z⟩ := F.get x p e
      refine ⟨v, .inr ⟨lookup_relabel_free (env := env) hk, c, hcl, ?_⟩, z⟩
      have hce := S.sub x c hcl
      rcases r with ⟨k, m, n, e'⟩ | ⟨k, c', e', z'⟩
      · exact absurd k hnl
      · rw [hce] at e'; cases e'; exact z'
    · cases e
  lst := F.lst
end

/-- the tests of a clause -/
def CT (C : Cx) (n : Nat) (env : Env) (ρ : Rho) (ifs : List Expr) (b : Bool) : Prop :=
  ∀ (A : Around) (own : List Addr) (lst : Lst) (s : Shared) (Q : Bool → Shared → Prop) (E : Value → Shared → Prop), Ok n A → Inv C s own → Frm C env s.heap own ρ lst →
    (∀ s', XB no s s' → Q b s') → wpAny C.M A (forIn ifs true fun c r => if r = true then do let ok ← isTrue c env (eval c env); pure (ForInStep.yield ok) else pure (ForInStep.yield r)) Q E s
/-- an expression that may turn the lists ch -/
def CE (C : Cx) (n : Nat) (env : Env) (ρ : Rho) (ch : Addr → Prop) (e : Expr) (J J' : Lst → Prop) (d : D) : Prop :=
  ∀ (A : Around) (own : List Addr) (lst : Lst) (s : Shared) (Q E : Value → Shared → Prop), Ok n A → Inv C s own → Frm C env s.heap own ρ lst → J lst →
    (∀ v s' lst', XB ch s s' → Frm C env s'.heap own ρ lst' → J' lst' → Rep C s'.heap own v d → Q v s') → wpAny C.M A (eval e env) Q E s
/-- a target takes a value -/
def CA (C : Cx) (env : Env) (A : Around) (ρ ρ' : Rho) (target : Expr) (d : D) : Prop :=
  ∀ (own : List Addr) (lst : Lst) (s : Shared) (v : Value) (Q : Unit → Shared → Prop) (E : Value → Shared → Prop), Inv C s own → Frm C env s.heap own ρ lst → Rep C s.heap own v d →
    (∀ s', XB (one env.locals) s s' → Frm C env s'.heap own ρ' lst → Q () s') → wpAny C.M A (assign target env v) Q E s

section
variable {C : Cx} {n : Nat} {env : Env} {ρ : Rho} {A : Around}
theorem ct_nil : CT C n env ρ [] true := fun _ _ _ s _ _ _ _ _ k => wpAny_tests_nil (k s (.refl _ _))
theorem ct_one {c : Expr} {b : Bool} (h : PT C n env ρ c b) : CT C n env ρ [c] b := fun A own lst s Q E o I F k => wpAny_tests_one (h A own lst s Q E o I F k)
theorem PE.ce {e : Expr} {d : D} {J : Lst → Prop} (h : PE C n env ρ e d) : CE C n env ρ no e J J d := fun A own lst s Q E o I F j k =>
  h A own lst s Q E o I F fun v s' x r => k v s' lst x (F.x0 x) j r
theorem ca_name {x : Str} {p : Pos} {d : D} (hx : env.kindOf x = some .local) : CA C env A ρ (ρ.set x (.cl d)) (.Name x p) d := by
  intro own lst s v Q E I F r k
  obtain ⟨m, hm⟩ := F.loc
  refine wpAny_assign_Name (wpAny_storeName_local hx hm (fun h' hn hs => k _ ?_ ?_) (by rw [F.kind]; rfl))
  · exact .sameBut hs (let ⟨o, _, _, e, _⟩ := hn; ⟨o, e⟩)
  · exact F.setLoc (p := .cl d) hx r hm hn hs

/-- what a block's turns do -/
def outs (tst : Nat → Bool) (g : Nat → D) (i : Nat) : List D := (List.range i).flatMap fun j => if tst j = true then [g j] else []
theorem outs_succ (tst : Nat → Bool) (g : Nat → D) (i : Nat) : outs tst g (i + 1) = outs tst g i ++ if tst i = true then [g i] else [] := by
  unfold outs; rw [List.range_succ, List.flatMap_append]; simp
theorem outs_len (tst : Nat → Bool) (g : Nat → D) : ∀ i, (outs tst g i).length ≤ i
  | 0 => by simp [outs]
  | i + 1 => by
    have := outs_len tst g i
    rw [outs_succ, List.length_append]
    split <;> simp <;> omega

/-- how a block's loop turns -/
def LoopRule (C : Cx) (A : Around) (env : Env) (c : Code) (target elt : Expr) (ifs : List Expr) (I Dl : Addr) : Prop :=
  ∀ (R : Result → Shared → Prop) (s : Shared) (Inv : Nat → Shared → Prop)
    (_ : ∀ n s, Inv n s → wpAny C.M A (pyNext (.ref I)) (fun r s₁ => match r with
      | none => R (.ok .next) s₁
      | some v => wpAny C.M A (assign target env v) (fun _ s₂ =>
          wpAny C.M A (forIn ifs true fun c r => if r = true then do let ok ← isTrue c env (eval c env); pure (ForInStep.yield ok) else pure (ForInStep.yield r)) (fun ok s₃ =>
            if ok = true then wpAny C.M A (eval elt env) (fun x s₄ =>
              wpAny C.M A (call (.builtin "list.append") [.ref Dl, x]) (fun _ s₅ => ∃ m, m < n ∧ Inv m s₅) (notedBy C.M A env fun e s' => R (.error e) s') s₄) (notedBy C.M A env fun e s' => R (.error e) s') s₃
            else ∃ m, m < n ∧ Inv m s₃) (notedBy C.M A env fun e s' => R (.error e) s') s₂) (notedBy C.M A env fun e s' => R (.error e) s') s₁) (notedBy C.M A env fun e s' => R (.error e) s') s)
    (n : Nat), Inv n s → codeAny C.M A c R s
theorem LoopRule.one {elt target iter : Expr} {ifs : List Expr} {scope : Scope} {pos : Pos} {I Dl : Addr} (ht : ∀ v, letOwnedTupleGo target (.ref I) v = pure ()) :
    LoopRule C A env (.compLoop (.ListComp elt [⟨target, iter, ifs, 0⟩] scope pos) 0 (.ref I) (.ref Dl) env) target elt ifs I Dl := fun R s Inv turn n h => codeAny_compLoop_tests Inv turn n h ht

theorem comp_loop {elt target : Expr} {ifs : List Expr} {code : Code} {I Dl : Addr} {dat g : Nat → D} {tst : Nat → Bool} {m : Nat} {St : List Addr → Nat → Heap → Prop} {ρ₀ : Rho} {ρc : Nat → Rho} {J : Nat → Lst → Prop} {ch : Addr → Prop}
    {own : List Addr} {s : Shared} {lst : Lst} {R : Result → Shared → Prop} {acc : List D} {vs₀ : List Value} (rule : LoopRule C A env code target elt ifs I Dl) (o : Ok m A) (S : Src C A I n dat St) (hn : acc.length + n < 2 ^ 20)
    (hI : I ∈ own) (hD : Dl ∈ own) (hID : I ≠ Dl) (hIL : I ≠ env.locals) (hDL : Dl ≠ env.locals) (hch : ∀ a, ch a → a ∈ own ∧ a ≠ I ∧ a ≠ Dl ∧ a ≠ env.locals) (hcell : ∀ n c, env.cells.lookup n = some c → c ≠ Dl ∧ c ≠ I)
    (hρ : ∀ x b, ρ₀ x = some (.at b) → b ≠ Dl ∧ b ≠ I) (hJ : ∀ i l b ds, J i l → l b = some ds → b ≠ Dl ∧ b ≠ I) (hρc : ∀ i x p, ρ₀ x = some p → ρc i x = some p)
    (asg : ∀ i, i < n → CA C env A ρ₀ (ρc i) target (dat i)) (test : ∀ i, i < n → CT C m env (ρc i) ifs (tst i)) (skip : ∀ i l, i < n → tst i = false → J i l → J (i + 1) l)
    (body : ∀ i, i < n → tst i = true → CE C m env (ρc i) ch elt (J i) (J (i + 1)) (g i))
    (I0 : Inv C s own) (F0 : Frm C env s.heap own ρ₀ lst) (j0 : J 0 lst) (p0 : s.heap.PlainList Dl (List.toArray vs₀)) (r0 : RepL C s.heap own vs₀ acc) (st0 : St own 0 s.heap)
    (k : ∀ s' lst' vs, XB (fun a => ch a ∨ a = I ∨ a = Dl ∨ a = env.locals) s s' → Inv C s' own → Frm C env s'.heap own ρ₀ lst' → J n lst' → s'.heap.PlainList Dl (List.toArray vs) → RepL C s'.heap own vs (acc ++ outs tst g n) →
      ∀ h' tk, (∀ b o, b ≠ I → s'.heap.get? b = some o → h'.get? b = some o) → R (.ok .next) { s' with heap := h', toks := tk }) :
    codeAny C.M A code R s := by
  have hLo := F0.lown
  refine rule R s (fun j s' => ∃ i lst' vs, i ≤ n ∧ j = n - i ∧ XB (fun a => ch a ∨ a = I ∨ a = Dl ∨ a = env.locals) s s' ∧ Inv C s' own ∧ Frm C env s'.heap own ρ₀ lst' ∧ J i lst' ∧ s'.heap.PlainList Dl (List.toArray vs) ∧ RepL C s'.heap own vs (acc ++ outs tst g i) ∧ St own i s'.heap) ?_ n
    ⟨0, lst, vs₀, Nat.zero_le _, rfl, .refl _ _, I0, F0, j0, p0, by simpa [outs] using r0, st0⟩
  rintro j s' ⟨i, lst', vs, hi, rfl, x, I', F', j', p', r', st'⟩
  have dne : ∀ (h : Heap) its, h.PlainList Dl its → ¬ Fields h Dl := fun h its ⟨_, e⟩ ⟨o', fs, e', d'⟩ => by rw [e] at e'; cases e'; cases d'
  by_cases hlt : i < n
  · refine S.item own i _ _ _ hlt hI st' fun v h' tk st1 up rv => ?_
    dsimp only
    have upo : ∀ b o, b ∉ own → s'.heap.get? b = some o → h'.get? b = some o := fun b o n e => up b o (fun z => n (z ▸ hI)) e
    have lI : ∃ o, h'.get? I = some o := let ⟨o, _, e, _⟩ := S.isf _ _ _ st1; ⟨o, e⟩
    have y1 : XB (one I) s' { s' with heap := h', toks := tk } := ⟨fun b o hb e => up b o hb e, fun b o e => by
      by_cases z : b = I
      · rw [z]; exact lI
      · exact ⟨o, up b o z e⟩, rfl, fun _ _ e => e, id⟩
    have I1 : Inv C { s' with heap := h', toks := tk } own := I'.xb y1 (by rintro a rfl; exact hI)
    have F1 : Frm C env h' own ρ₀ lst' := F'.offS hI (Ne.symm hIL) (fun n c e => (hcell n c e).2) (fun y b e => (hρ y b e).2) (fun b ds e => (hJ _ _ b ds j' e).2) up (fun _ m => m) fun _ m _ => m
    have p1 : h'.PlainList Dl (List.toArray vs) := p'.at fun o e => up Dl o (Ne.symm hID) e
    have r1 : RepL C h' own vs (acc ++ outs tst g i) := r'.move _ upo fun _ m => .inl m
    refine asg i hlt own lst' _ v _ _ I1 F1 rv fun s2 x2 F2 => ?_
    have I2 := I1.xb x2 (by rintro a rfl; exact hLo)
    refine test i hlt A own lst' s2 _ _ o I2 F2 fun s3 x3 => ?_
    have I3 := I2.x0 x3
    have F3 := F2.x0 x3
    have x13 : XB (one env.locals) { s' with heap := h', toks := tk } s3 := x2.trans x3.nil
    have up3 : ∀ b o, b ∉ own → h'.get? b = some o → s3.heap.get? b = some o := fun b o hb e => x13.keep b o (fun z => hb (z ▸ hLo)) e
    have p3 : s3.heap.PlainList Dl (List.toArray vs) := p1.at fun o e => x13.keep Dl o hDL e
    have r3 : RepL C s3.heap own vs (acc ++ outs tst g i) := r1.move _ up3 fun _ m => .inl m
    have st3 : St own (i + 1) s3.heap := S.frame own own _ _ _ st1 (fun b o hb e => x13.keep b o (fun z => by
      rcases hb with hb | hb
      · exact hIL (hb ▸ z)
      · exact hb (z ▸ hLo)) e) (fun _ m => .inl m) fun _ m => m
    have X3 : XB (fun a => ch a ∨ a = I ∨ a = Dl ∨ a = env.locals) s s3 := (x.trans (y1.mono fun a z => .inr (.inl z))).trans (x13.mono fun a z => .inr (.inr (.inr z)))
    cases ht' : tst i with
    | false =>
      simp only [Bool.false_eq_true, if_false]
      exact ⟨n - (i + 1), by omega, i + 1, lst', vs, hlt, rfl, X3, I3, F3.weak (hρc i), skip i _ hlt ht' j', p3, by rw [outs_succ, ht']; simpa using r3, st3⟩
    | true =>
      simp only [if_true]
      refine body i hlt ht' A own lst' s3 _ _ o I3 F3 j' fun u s4 lst4 x4 F4 j4 r4 => ?_
      have up4 : ∀ b o, b ∉ own → s3.heap.get? b = some o → s4.heap.get? b = some o := fun b o hb e => x4.keep b o (fun z => hb (hch b z).1) e
      have p4 : s4.heap.PlainList Dl (List.toArray vs) := p3.at fun o e => x4.keep Dl o (fun z => (hch _ z).2.2.1 rfl) e
      have rr : RepL C s4.heap own (vs ++ [u]) (acc ++ outs tst g (i + 1)) := by
        rw [outs_succ, if_pos ht', ← List.append_assoc]
        exact (r3.move _ up4 fun _ m => .inl m).append (.single r4)
      have hlen : vs.length ≤ acc.length + i := by rw [r3.length, List.length_append]; have := outs_len tst g i; omega
      refine wpAny_list_append_plain p4 (fun h5 p5 sb => ?_) (by rw [List.size_toArray, sizeLine_eq]; omega)
      have p5 : h5.PlainList Dl (List.toArray (vs ++ [u])) := by simpa using p5
      have up5 : ∀ b o, b ≠ Dl → s4.heap.get? b = some o → h5.get? b = some o := fun b o z e => (sb.2 b z).trans e
      have y5 : XB (one Dl) s4 { s4 with heap := h5, toks := s4.toks } := .sameBut sb (let ⟨_, e⟩ := p5; ⟨_, e⟩)
      refine ⟨n - (i + 1), by omega, i + 1, lst4, vs ++ [u], hlt, rfl, (X3.trans (x4.mono fun a z => .inl z)).trans (y5.mono fun a z => .inr (.inr (.inl z))), (I3.xb x4 fun a z => (hch a z).1).xb y5 (by rintro a rfl; exact hD),
        (F4.weak (hρc i)).offS hD (Ne.symm hDL) (fun n c e => (hcell n c e).1) (fun y b e => (hρ y b e).1) (fun b ds e => (hJ _ _ b ds j4 e).1) up5 (fun _ m => m) fun _ m _ => m, j4, p5,
        rr.move _ (fun b o hb e => up5 b o (fun z => hb (z ▸ hD)) e) fun _ m => .inl m, ?_⟩
      refine S.frame own own _ _ _ st3 (fun b o hb e => up5 b o (fun z => ?_) (x4.keep b o (fun z => ?_) e)) (fun _ m => .inl m) fun _ m => m
      · rcases hb with hb | hb
        · exact hID (hb ▸ z)
        · exact hb (z ▸ hD)
      · rcases hb with hb | hb
        · exact (hch b z).2.1 hb
        · exact hb (hch b z).1
  · have e : i = n := by omega
    subst e
    refine S.done own _ _ _ st' fun h' tk up => ?_
    exact k s' lst' vs x I' F' j' p' r' h' tk up

/-- what a comprehension leaves -/
structure Left (C : Cx) (ch : Addr → Prop) (s : Shared) (own : List Addr) (a : Addr) (us : List Value) (ds : List D) (s' : Shared) : Prop where
  x : XB ch s s'
  n : s.heap.get? a = none
  p : s'.heap.PlainList a (List.toArray us)
  r : RepL C s'.heap (a :: own) us ds

theorem comp_block {B : Org} {own : List Addr} {s : Shared} {lst : Lst} {elt iter target : Expr} {ifs : List Expr} {scope : Scope} {cl : List (Str × Addr)} {fr : List Str} {pos : Pos} {dat g : Nat → D} {tst : Nat → Bool} {m : Nat} {ρc : Nat → Rho} {J : Nat → Lst → Prop}
    {ch : Addr → Prop} {d : D} {Q : Value → Shared → Prop} {E : Value → Shared → Prop} {use : Option (Value → Sem Unit)} (o : Ok m A) (W : Fw C env B s own ρ lst) (S : CS env scope cl fr) (he : EV C m env own s iter d) (hd : IsSrc d n dat) (hn : n < 2 ^ 20)
    (hch : ∀ a, ch a → a ∈ own) (hJ : ∀ i l b ds, J i l → l b = some ds → b ∈ own) (j0 : J 0 lst)
    (hρc : ∀ i x p, (ρ.only fr) x = some p → ρc i x = some p)
    (asg : ∀ c₀ i, i < n → CA C (compEnvC scope cl c₀ env) A (ρ.only fr) (ρc i) target (dat i)) (test : ∀ c₀ i, i < n → CT C m (compEnvC scope cl c₀ env) (ρc i) ifs (tst i)) (skip : ∀ i l, i < n → tst i = false → J i l → J (i + 1) l)
    (body : ∀ c₀ i, i < n → tst i = true → CE C m (compEnvC scope cl c₀ env) (ρc i) ch elt (J i) (J (i + 1)) (g i))
    (k : ∀ c₀ a us s₁ lst', s.heap.get? c₀ = none → c₀ ≠ a → Left C ch s (c₀ :: own) a us (outs tst g n) s₁ → (∃ m, s₁.heap.Ns c₀ m) → J n lst' → (∀ b ds, lst' b = some ds → ∃ us, s₁.heap.PlainList b (List.toArray us) ∧ RepL C s₁.heap (c₀ :: own) us ds) →
      compPost C.M A E use Q (.ref a) c₀ (.ok .next) s₁)
    (hs : ∀ x, foldedSetIterable iter env x = pure x := by intro _; rfl)
    (ht : ∀ it v, letOwnedTupleGo target it v = pure () := by intro _ _; rfl) :
    wpAny C.M A (comprehension (.ListComp elt [⟨target, iter, ifs, 0⟩] scope pos) scope env (firstIterPos [⟨target, iter, ifs, 0⟩] pos) (newList []) false (firstIter [⟨target, iter, ifs, 0⟩] env) use) Q E s := by
  refine wpAny_comprehension_free rfl hs S.clos S.kind S.names ?_
  show wpAny C.M A (eval iter env) _ E s
  refine he A _ _ o fun v s₁ x₁ r₁ => ?_
  have W₁ := W.x0 x₁
  refine src_iter o.handled W₁.I r₁ hd fun a s₂ St x₂ n₂ l₂ Sr st₂ => ?_
  refine wpAny_newObj_type (wpAny_newFunctionEnv S.cell (by intro y hy; simp at hy) (fun h₁ hns₁ hsb₁ => ?_) S.kind)
  dsimp only at hns₁ hsb₁ ⊢
  generalize hH2 : s₂.heap.push { cls := .type "list", dict := none, data := .seq ([] : List Value).toArray } = H2 at hns₁ hsb₁ ⊢
  have hL : H2.objs.size = s₂.heap.objs.size + 1 := by rw [← hH2, Heap.size_push]
  generalize hLL : H2.objs.size = L at hL hns₁ hsb₁ ⊢
  generalize hDD : s₂.heap.objs.size = Dl at hL ⊢
  have nD : s₂.heap.get? Dl = none := by rw [← hDD]; exact get_size
  have nL : s₂.heap.get? L = none := get_ge (by rw [hL, hDD]; exact Nat.le_succ _)
  have hDL : Dl ≠ L := by rw [hL]; exact Nat.ne_of_lt (Nat.lt_succ_self _)
  have n2 : ∀ b o, s₂.heap.get? b = some o → b ≠ Dl ∧ b ≠ L := fun b o e => ⟨fun z => by (rw [z, nD] at e; cases e), fun z => by (rw [z, nL] at e; cases e)⟩
  have old : ∀ b o, s₂.heap.get? b = some o → h₁.get? b = some o := fun b o e => hsb₁.extBut b o (n2 b o e).2 (Heap.get?_push_of_some _ (hH2 ▸ Heap.get?_push_of_some _ e))
  have hacc : h₁.PlainList Dl #[] := ⟨_, hsb₁.extBut _ _ hDL (Heap.get?_push_of_some _ (by rw [← hH2, ← hDD]; exact Heap.get?_push_size _ rfl))⟩
  have lL : ∃ o, h₁.get? L = some o := let ⟨o, _, _, e, _⟩ := hns₁; ⟨o, e⟩
  have x₃ : XB no s₂ { s₂ with heap := h₁, toks := s₂.toks + ([] : List (Str × Value)).length } := .of_heap old
  generalize hs₃ : ({ s₂ with heap := h₁, toks := s₂.toks + ([] : List (Str × Value)).length } : Shared) = s₃ at x₃
  have hh₃ : s₃.heap = h₁ := by rw [← hs₃]
  have W₂ := W₁.add x₂ n₂ l₂
  have ne_own : ∀ b ∈ a :: own, b ≠ Dl ∧ b ≠ L := fun b m => let ⟨o, e⟩ := W₂.I.live b m; n2 b o e
  have ne_a : ∀ b ∈ own, b ≠ a := fun b m z => by obtain ⟨o, e⟩ := W₁.I.live b m; rw [z, n₂] at e; cases e
  have haD : a ≠ Dl := (ne_own a List.mem_cons_self).1
  have haL : a ≠ L := (ne_own a List.mem_cons_self).2
  have fr3 : ∀ b ∈ [L, Dl], s₂.heap.get? b = none := fun b m => by
    rcases List.mem_cons.mp m with rfl | m
    · exact nL
    · rw [List.mem_singleton.mp m]; exact nD
  have lD : ∃ o, h₁.get? Dl = some o := let ⟨_, e⟩ := hacc; ⟨_, e⟩
  have I₃ : Inv C s₃ ([L, Dl] ++ (a :: own)) := by
    refine ⟨(W₂.I.x0 x₃).top, fun b m => ?_, fun b m => ?_⟩
    · rcases List.mem_append.mp m with m | m
      · rw [hh₃]
        rcases List.mem_cons.mp m with rfl | m
        · exact lL
        · rw [List.mem_singleton.mp m]; exact lD
      · exact (W₂.I.x0 x₃).live b m
    · rcases List.mem_append.mp m with m | m
      · exact W₂.I.new (fr3 b m)
      · exact W₂.I.off b m
  have F₃ : Frm C env s₃.heap ([L, Dl] ++ (a :: own)) ρ lst := (W₂.F.more fr3).x0 x₃
  have cne : ∀ n c, env.cells.lookup n = some c → c ≠ Dl ∧ c ≠ L ∧ c ≠ a := fun n c e => ⟨(ne_own c (W₂.F.cown n c e)).1, (ne_own c (W₂.F.cown n c e)).2, ne_a c (W.F.cown n c e)⟩
  have Fi : Frm C (compEnvC scope cl L env) s₃.heap ([L, Dl] ++ (a :: own)) (ρ.only fr) lst := F₃.inner S List.mem_cons_self (by rw [hh₃]; exact ⟨_, hns₁⟩) fun n c e => (cne n c e).2.1
  have st₃ : St ([L, Dl] ++ (a :: own)) 0 s₃.heap := Sr.frame _ _ _ _ _ st₂ (fun b o _ e => x₃.keeps b o e) (fun b m => (List.mem_append.mp m).elim (fun m => .inr (fr3 b m)) .inl) fun b m => List.mem_append_right _ m
  have ownm : ∀ b ∈ own, b ∈ [L, Dl] ++ (a :: own) := fun b m => List.mem_append_right _ (List.mem_cons_of_mem _ m)
  have loop : codeAny C.M A (.compLoop (.ListComp elt [⟨target, iter, ifs, 0⟩] scope pos) 0 (.ref a) (.ref Dl) (compEnvC scope cl L env)) (compPost C.M A E use Q (.ref Dl) L) s₃ := by
    refine comp_loop (acc := []) (vs₀ := []) (own := [L, Dl] ++ (a :: own)) (lst := lst) (ρ₀ := ρ.only fr) (ρc := ρc) (J := J) (ch := ch) (g := g) (tst := tst) (dat := dat) (.one (ht _)) o Sr (by simpa using hn) (by simp) (by simp) haD haL hDL (fun b m => ⟨ownm b (hch b m), ne_a b (hch b m), (ne_own b (List.mem_cons_of_mem _ (hch b m))).1, (ne_own b (List.mem_cons_of_mem _ (hch b m))).2⟩)
      (fun n c e => ⟨(cne n c (S.sub n c e)).1, (cne n c (S.sub n c e)).2.2⟩) (fun x b e => ?_) (fun i l b ds j e => ⟨(ne_own b (List.mem_cons_of_mem _ (hJ i l b ds j e))).1, ne_a b (hJ i l b ds j e)⟩) hρc (asg L) (test L) skip (body L) I₃ Fi j0 (by rw [hh₃]; exact hacc) (by simp [RepL]) st₃ ?_
    · unfold Rho.only at e
      split at e
      · obtain ⟨v, _, z⟩ := W.F.get x _ e
        exact ⟨(ne_own b (List.mem_cons_of_mem _ z.2.1)).1, ne_a b z.2.1⟩
      · cases e
    · intro s' lst' us X I' F' jn p' r' h' tk up
      have xx : ∀ b o, s.heap.get? b = some o → b ≠ a ∧ b ≠ Dl ∧ b ≠ L := fun b o e => by
        have e1 := x₁.keeps b o e
        exact ⟨fun z => by (rw [z, n₂] at e1; cases e1), n2 b o (x₂.keeps b o e1)⟩
      refine k L Dl us _ lst' (x₁.dead (x₂.dead nL)) (Ne.symm hDL) ⟨⟨fun b o hb e => ?_, fun b o e => ?_, ?_, ?_, ?_⟩, x₁.dead (x₂.dead nD), p'.at fun o e => up _ o (Ne.symm haD) e, ?_⟩ ?_ jn fun b ds e => ?_
      · obtain ⟨z1, z2, z3⟩ := xx b o e
        exact up b o z1 (X.keep b o (by rintro (z | z | z | z); exact hb z; exact z1 z; exact z2 z; exact z3 z) (x₃.keeps b o (x₂.keeps b o (x₁.keeps b o e))))
      · obtain ⟨z1, z2, z3⟩ := xx b o e
        obtain ⟨o', e'⟩ := X.live b o (x₃.keeps b o (x₂.keeps b o (x₁.keeps b o e)))
        exact ⟨o', up b o' z1 e'⟩
      · exact X.os.trans (x₃.os.trans (x₂.os.trans x₁.os))
      · exact fun i v e => X.gens i v (x₃.gens i v (x₂.gens i v (x₁.gens i v e)))
      · exact fun e => X.bare (x₃.bare (x₂.bare (x₁.bare e)))
      · exact r'.move _ (fun b o hb e => up b o (fun z => hb (by rw [z]; simp)) e) fun b m => .inl (by
          rcases List.mem_cons.mp m with rfl | m
          · simp
          · rcases List.mem_cons.mp m with rfl | m
            · simp
            · exact ownm b m)
      · obtain ⟨m, hm⟩ := F'.loc
        exact ⟨m, hm.at' fun o e => up _ o (Ne.symm haL) e⟩
      · obtain ⟨_, us', q, ru⟩ := F'.lst b ds e
        refine ⟨us', q.at fun o e' => up b o (ne_a b (hJ _ _ b ds jn e)) e', ru.move _ (fun b o hb e => up b o (fun z => hb (by rw [z]; simp)) e) fun b m => .inl (by
          rcases List.mem_cons.mp m with rfl | m
          · simp
          · exact ownm b m)⟩
  exact codeAny_compStart_list loop (Sr.self ([L, Dl] ++ (a :: own)) 0 _ _ _ st₃ loop)
end
end Mine

-- part M13
namespace Mine
open PySem PySem.W PyProof.Rows

section
variable {C : Cx} {env : Env} {B : Org} {own own' : List Addr} {s s' : Shared} {ρ ρ' : Rho} {lst lst' : Lst}

/-- the heap turns at own addresses that are no slots -/
theorem Frm.offC {h h' : Heap} {ch : Addr → Prop} (F : Frm C env h own ρ lst) (ha : ∀ a, ch a → a ∈ own) (nL : ¬ ch env.locals) (nC : ∀ n c, env.cells.lookup n = some c → ¬ ch c) (nR : ∀ x b, ρ x = some (.at b) → ¬ ch b) (nP : ∀ b ds, lst b = some ds → ¬ ch b)
    (up : ∀ b o, ¬ ch b → h.get? b = some o → h'.get? b = some o) (q : ∀ b ∈ own', b ∈ own) (hL : ∀ b ∈ own, ¬ ch b → b ∈ own') : Frm C env h' own' ρ lst := by
  have upo : ∀ b o, b ∉ own → h.get? b = some o → h'.get? b = some o := fun b o n e => up b o (fun z => n (ha b z)) e
  have cell : ∀ c v, ¬ ch c → h.IsCell c v → h'.IsCell c v := fun c v n hc => let ⟨o, e, d⟩ := hc; ⟨o, up c o n e, d⟩
  refine ⟨F.kind, F.glob, F.bui, ?_, ?_, F.apart, F.ne, hL _ F.lown nL, fun n c e => hL _ (F.cown n c e) (nC n c e), fun x p e => ?_, fun b ds e => ?_⟩
  · obtain ⟨m, n⟩ := F.loc
    exact ⟨m, n.at' fun o e => up _ o nL e⟩
  · intro n c e
    obtain ⟨v, z⟩ := F.cel n c e
    exact ⟨v, cell c v (nC n c e) z⟩
  · obtain ⟨v, r, z⟩ := F.get x p e
    refine ⟨v, ?_, ?_⟩
    · rcases r with ⟨k, m, n, e⟩ | ⟨k, c, e, z⟩
      · exact .inl ⟨k, m, n.at' fun o e => up _ o nL e, e⟩
      · exact .inr ⟨k, c, e, cell c _ (nC x c e) z⟩
    · cases p with
      | raw u => exact z
      | cl d => exact Rep.move d z upo fun b m => .inl (q b m)
      | «at» b =>
        obtain ⟨z1, z2, its, z3⟩ := z
        exact ⟨z1, hL b z2 (nR x b e), its, z3.at fun o z => up b o (nR x b e) z⟩
  · obtain ⟨m, vs, p, r⟩ := F.lst b ds e
    exact ⟨hL b m (nP b ds e), vs, p.at fun o z => up b o (nP b ds e) z, r.move ds upo fun b m => .inl (q b m)⟩

/-- addresses are let go, and turn -/
theorem Fw.dropC {ch : Addr → Prop} (W : Fw C env B s own ρ lst) (hw : ∀ x p, ρ' x = some p → ρ x = some p) (hl : ∀ b ds, lst' b = some ds → lst b = some ds) (ha : ∀ a, ch a → a ∈ own ∧ (B.s.heap.get? a = none ∨ B.ch a)) (hB : ∀ a, ch a → a ∈ B.own → a ∈ own')
    (nL : ¬ ch env.locals) (nC : ∀ n c, env.cells.lookup n = some c → ¬ ch c) (nR : ∀ x b, ρ' x = some (.at b) → ¬ ch b) (nP : ∀ b ds, lst' b = some ds → ¬ ch b)
    (x : XB ch s s') (q : ∀ b ∈ own', b ∈ own) (hL : ∀ b ∈ own, ¬ ch b → b ∈ own') : Fw C env B s' own' ρ' lst' := by
  refine ⟨(W.I.xb x fun a z => (ha a z).1).less q, ?_, ?_, fun c hc => W.new c ?_, fun a m => W.grow a (q a m), fun a m => ?_⟩
  · have F' : Frm C env s.heap own ρ' lst' := { W.F with get := fun y p e => W.F.get y p (hw y p e), lst := fun b ds e => W.F.lst b ds (hl b ds e) }
    exact F'.offC (fun a z => (ha a z).1) nL nC nR nP (fun b o hb e => x.keep b o hb e) q hL
  · exact ⟨fun b o hb e => x.keep b o (fun z => (ha b z).2.elim (fun n => by (rw [e] at n; cases n)) hb) (W.x.keep b o hb e), fun b o e => let ⟨o', e'⟩ := W.x.live b o e; x.live b o' e', x.os.trans W.x.os, fun i v e => x.gens i v (W.x.gens i v e), fun h => x.bare (W.x.bare h)⟩
  · rcases hc with hc | hc | ⟨ds, e⟩
    · exact .inl hc
    · exact .inr (.inl hc)
    · exact .inr (.inr ⟨ds, hl c ds e⟩)
  · by_cases z : ch a
    · exact hB a z m
    · exact hL a (W.incl a m) z
theorem Fw.weak (W : Fw C env B s own ρ lst) (hw : ∀ x p, ρ' x = some p → ρ x = some p) : Fw C env B s own ρ' lst := ⟨W.I, W.F.weak hw, W.x, W.new, W.grow, W.incl⟩
theorem Fw.here (I : Inv C s own) (F : Frm C env s.heap own ρ lst) : Fw C env ⟨s, own, slots env lst⟩ s own ρ lst := ⟨I, F, .refl _ _, fun _ h => .inr h, fun _ m => .inl m, fun _ m => m⟩
theorem XB.same {ch : Addr → Prop} {L : Addr} {s₁ : Shared} {h' : Heap} (x : XB ch s s₁) (n : s.heap.get? L = none) (sb : Heap.SameBut L s₁.heap h') : XB ch s { s₁ with heap := h' } :=
  ⟨fun b o hb e => (sb.2 b (fun z => by (rw [z, n] at e; cases e))).trans (x.keep b o hb e), fun b o e => by
    obtain ⟨o', e'⟩ := x.live b o e
    exact ⟨o', (sb.2 b (fun z => by (rw [z, n] at e; cases e))).trans e'⟩, x.os, x.gens, x.bare⟩

variable {n m : Nat} {A : Around} {Q : Flow → Shared → Prop} {E : Value → Shared → Prop} {rest : List Stmt}
/-- a pure comprehension -/
theorem pl_comp {elt iter target : Expr} {ifs : List Expr} {scope : Scope} {cl : List (Str × Addr)} {fr : List Str} {pos : Pos} {dat g : Nat → D} {tst : Nat → Bool} {ρc : Nat → Rho} {d : D} (S : CS env scope cl fr) (he : PE C m env ρ iter d) (hd : IsSrc d n dat) (hn : n < 2 ^ 20)
    (hρc : ∀ i x p, (ρ.only fr) x = some p → ρc i x = some p)
    (asg : ∀ A c₀ i, i < n → CA C (compEnvC scope cl c₀ env) A (ρ.only fr) (ρc i) target (dat i)) (test : ∀ c₀ i, i < n → CT C m (compEnvC scope cl c₀ env) (ρc i) ifs (tst i))
    (body : ∀ c₀ i, i < n → tst i = true → PE C m (compEnvC scope cl c₀ env) (ρc i) elt (g i))
    (hs : ∀ x, foldedSetIterable iter env x = pure x := by intro _; rfl)
    (ht : ∀ it v, letOwnedTupleGo target it v = pure () := by intro _ _; rfl) : PL C m env ρ (.ListComp elt [⟨target, iter, ifs, 0⟩] scope pos) (outs tst g n) := by
  intro own lst s I F A Q E o k
  rw [eval_ListComp]
  refine comp_block (lst := lst) (J := fun _ l => l = lst) (ch := no) (g := g) (tst := tst) (ρc := ρc) o (Fw.here I F) S (he.ev (Fw.here I F)) hd hn (fun _ h => h.elim) (fun i l b ds j e => by subst j; exact (F.lst b ds e).1) rfl hρc (asg A) test (fun _ _ _ _ j => j)
    (fun c₀ i hi ht => (body c₀ i hi ht).ce) (fun c₀ a us s₁ lst' n₀ hne L hm _ _ => ?_) hs ht
  obtain ⟨mm, hm⟩ := hm
  refine ⟨mm, hm, fun h' sb => k a us _ (L.x.same n₀ sb) L.n (L.p.at fun o e => (sb.2 a (Ne.symm hne)).trans e) ?_⟩
  exact L.r.move _ (fun b o hb e => (sb.2 b (fun z => hb (by simp [z]))).trans e) fun b m => .inl (by
    rcases List.mem_cons.mp m with rfl | m
    · simp
    · simp [m])

/-- x = [comprehension], where the two stores change places -/
theorem st_comp {x : Str} {px : Pos} {spos : Pos} {elt iter target : Expr} {ifs : List Expr} {scope : Scope} {cl : List (Str × Addr)} {fr : List Str} {pos : Pos} {dat g : Nat → D} {tst : Nat → Bool} {ρc : Nat → Rho} {d : D} (o : Ok m A) (W : Fw C env B s own ρ lst) (S : CS env scope cl fr)
    (he : PE C m env ρ iter d) (hd : IsSrc d n dat) (hn : n < 2 ^ 20)
    (hρc : ∀ i x p, (ρ.only fr) x = some p → ρc i x = some p)
    (asg : ∀ A c₀ i, i < n → CA C (compEnvC scope cl c₀ env) A (ρ.only fr) (ρc i) target (dat i)) (test : ∀ c₀ i, i < n → CT C m (compEnvC scope cl c₀ env) (ρc i) ifs (tst i))
    (body : ∀ c₀ i, i < n → tst i = true → PE C m (compEnvC scope cl c₀ env) (ρc i) elt (g i)) (hx : Stores env x)
    (k : ∀ s' own', Fw C env B s' own' (ρ.set x (.cl (.list (outs tst g n)))) lst → wpAny C.M A (execs rest env) Q E s')
    (hsw : swapsWith (.ListComp elt [⟨target, iter, ifs, 0⟩] scope pos) (some (.Name x px)) spos.line env = pure true)
    (hs : ∀ x, foldedSetIterable iter env x = pure x := by intro _; rfl)
    (ht : ∀ it v, letOwnedTupleGo target it v = pure () := by intro _ _; rfl) :
    wpAny C.M A (execs (.Assign [.Name x px] (.ListComp elt [⟨target, iter, ifs, 0⟩] scope pos) spos :: rest) env) Q E s := by
  refine wpAny_execs_cons ?_
  rw [exec_Assign_Name_used _ _ _ _ hsw]
  refine wpAny_bind (wpAny_standAt (wpAny_bind ?_))
  show wpAny C.M A (do let _ ← comprehension (.ListComp elt [⟨target, iter, ifs, 0⟩] scope pos) scope env _ (newList []) false (firstIter [⟨target, iter, ifs, 0⟩] env) (some (assign (.Name x px) env))) _ _ s
  refine wpAny_bind (wpAny_mono (Q := fun _ s' => wpAny C.M A (execs rest env) Q E s') ?_ (fun _ s' hq => wpAny_pure (wpAny_pure hq)) fun _ _ e => e)
  refine comp_block (lst := lst) (J := fun _ l => l = lst) (ch := no) (g := g) (tst := tst) (ρc := ρc) o W S (he.ev W) hd hn (fun _ h => h.elim) (fun i l b ds j e => by subst j; exact (W.F.lst b ds e).1) rfl hρc (asg A) test (fun _ _ _ _ j => j)
    (fun c₀ i hi ht => (body c₀ i hi ht).ce) (fun c₀ a us s₁ lst' n₀ hne L hm _ _ => ?_) hs ht
  obtain ⟨mm, hm⟩ := hm
  have lc : ∃ o, s₁.heap.get? c₀ = some o := let ⟨o, _, _, e, _⟩ := hm; ⟨o, e⟩
  have W₁ := W.add L.x n₀ lc
  have ns : ¬ slots env lst c₀ := fun z => by
    obtain ⟨o, e⟩ := W.I.live c₀ (W.slotOwn z); rw [n₀] at e; cases e
  have na : a ∉ c₀ :: own := fun z => by
    rcases List.mem_cons.mp z with z | z
    · exact hne z.symm
    · obtain ⟨o, e⟩ := W.I.live a z; rw [L.n] at e; cases e
  have rr : Rep C s₁.heap (c₀ :: own) (.ref a) (.list (outs tst g n)) := by
    simp only [Rep]
    exact ⟨a, us, rfl, na, L.p.isList, L.r.less fun b m => List.mem_cons_of_mem _ m⟩
  refine wpAny_assign_Name (store_name (p := .cl (.list (outs tst g n))) W₁.rebase hx rr fun s₂ W₂ => ?_)
  refine ⟨mm, hm.at' fun o e => W₂.x.keep _ o ns e, fun h' sb => ?_⟩
  have W₃ := W₁.join W₂
  have lc2 : ∃ o, s₂.heap.get? c₀ = some o := let ⟨o, e⟩ := lc; ⟨o, W₂.x.keep _ o ns e⟩
  refine k _ (own) ?_
  have hd : B.s.heap.get? c₀ = none := W.x.dead n₀
  refine ⟨⟨fun b o e => (sb.2 b (fun z => by
      have := W₁.I.off c₀ List.mem_cons_self
      rw [← z, e] at this; cases this)).trans (W₃.I.top b o e), fun b m => ?_, W.I.off⟩, ?_, ⟨fun b o hb e => (sb.2 b (fun z => by (rw [z, hd] at e; cases e))).trans (W₃.x.keep b o hb e), fun b o e => ?_, W₃.x.os, W₃.x.gens, W₃.x.bare⟩, W.new, W.grow, W.incl⟩
  · obtain ⟨o, e⟩ := W₃.I.live b (List.mem_cons_of_mem _ m)
    refine ⟨o, (sb.2 b (fun z => ?_)).trans e⟩
    obtain ⟨o, e⟩ := W.I.live b m
    rw [z, n₀] at e; cases e
  · refine W₃.F.offS (a := c₀) List.mem_cons_self (fun z => ns (.inl z.symm)) (fun n c e z => ns (.inr (.inl ⟨n, z ▸ e⟩))) (fun y b e z => ?_) (fun b ds e z => ns (.inr (.inr ⟨ds, z ▸ e⟩))) (fun b o z e => (sb.2 b z).trans e) (fun b m => List.mem_cons_of_mem _ m) fun b m z => (List.mem_cons.mp m).resolve_left z
    unfold Rho.set at e
    split at e
    · cases e
    · obtain ⟨v, _, _, q, _⟩ := W.F.get y _ e
      obtain ⟨o, e⟩ := W.I.live b q
      rw [z, n₀] at e; cases e
  · obtain ⟨o', e'⟩ := W₃.x.live b o e
    exact ⟨o', (sb.2 b (fun z => by (rw [z, hd] at e; cases e))).trans e'⟩
end
end Mine

-- part M14
namespace Mine
open PySem PySem.W PyProof.Rows

structure DFacts (C : Cx) (bl br ins rif dr : Addr) (fl fr fi ff fw : FuncData) : Prop extends RFacts C bl br ins rif fl fr fi ff where
  hdr : FnAt C 12 dr fw
  ndr : C.mg (K "_law_drawn") = some (.ref dr)
  list : C.mg (K "list") = none
  list' : C.mb (K "list") = some (.type "list")
  bindw : ∀ u v S, peek C.K S (bindArgs fw ⟨[u, v], []⟩) = some [(K "size", u), (K "number", v)]

local macro_rules | `(tactic| walk_at "nm") => `(tactic| repeat' (first | assumption | exact Rho.same | exact Rho.bor_same | refine Rho.bor_ne (by decide) ?_ | refine Rho.ne (by decide) ?_))

structure Drw where
  rest : List Int
  deck : List Int
  num : Int
def drwGo (n : Nat) (num : Int) : Nat → Drw
  | 0 => ⟨(List.range n).map fun (j : Nat) => (j : Int), [], num⟩
  | i + 1 => let S := drwGo n num i; let l : Int := (n : Int) - i
    ⟨S.rest.eraseIdx (S.num.fmod l).toNat, S.deck ++ [S.rest.getD (S.num.fmod l).toNat 0], S.num.fdiv l⟩
def drawn (n : Nat) (num : Int) : List Int := (drwGo n num n).deck
theorem drw_facts {n : Nat} {num : Int} (h0 : 0 ≤ num) (h1 : num < 2 ^ 40) : ∀ i, i ≤ n → (drwGo n num i).rest.length = n - i ∧ (drwGo n num i).deck.length = i ∧ 0 ≤ (drwGo n num i).num ∧ (drwGo n num i).num < 2 ^ 40
  | 0, _ => ⟨by simp [drwGo], by simp [drwGo], h0, h1⟩
  | i + 1, hi => by
    obtain ⟨a, b, c, d⟩ := drw_facts (n := n) h0 h1 i (by omega)
    have hl : (0 : Int) < (n : Int) - i := by omega
    have f0 : 0 ≤ (drwGo n num i).num.fmod ((n : Int) - i) := Int.fmod_nonneg_of_pos _ hl
    have f1 : (drwGo n num i).num.fmod ((n : Int) - i) < (n : Int) - i := Int.fmod_lt_of_pos _ hl
    simp only [drwGo]
    refine ⟨?_, by simp [b], ?_, ?_⟩
    · rw [List.length_eraseIdx, a, if_pos (by omega)]; omega
    · rw [Int.fdiv_eq_ediv_of_nonneg _ (Int.le_of_lt hl)]; exact Int.ediv_nonneg c (Int.le_of_lt hl)
    · rw [Int.fdiv_eq_ediv_of_nonneg _ (Int.le_of_lt hl)]
      exact Int.lt_of_le_of_lt (Int.ediv_le_self _ c) d

section
variable {C : Cx} {bl br ins rif dr : Addr} {fl fr fi ff fw : FuncData}
theorem drw_spec (X : DFacts C bl br ins rif dr fl fr fi ff fw) {n : Nat} {num : Int} (hn : n < 2 ^ 19) (h0 : 0 ≤ num) (h1 : num < 2 ^ 40) : OpN C 8 (.ref dr) [.int n, .int num] (.il (drawn n num)) := by
  intro A own s vs Q E o I r k
  simp only [RepL] at r
  obtain ⟨u, _, rfl, ru, v, _, rfl, rv, rfl⟩ := r
  refine wpAny_call (enter (ps := [(K "size", .cl (.int n)), (K "number", .cl (.int num))]) (ch := no) (lst := noL) o I X.hdr.ok (binds_peek I.K (X.bindw u v)) (by rw [X.hdr.scope]; rfl) (by rw [X.hdr.scope]; rfl)
    (.cons ru (.cons rv .nil)) (fun _ _ e => by cases e) (fun s₁ env he hL hc W => ?_) (by rw [X.hdr.scope]; rfl))
  simp only [rhoOf] at W
  have o2 : Ok 7 (A.deeper env) := o.deeper
  have st : ∀ x, (scopeAt 12).names.lookup x = some .local → Stores env x := fun x e => .inl (ko he X.hdr.scope e)
  have gl : ∀ {x v}, (scopeAt 12).names.lookup x = some .globalImplicit → (C.mg x = some v ∨ (C.mg x = none ∧ C.mb x = some v)) → GN C env x v := fun e h => ⟨ko he X.hdr.scope e, h⟩
  refine sv_newlist o2 W (PL.el (pl_list_range (m := n) (gl rfl (.inr ⟨X.list, X.list'⟩)) (pe_call (gl rfl (.inr ⟨X.range, X.range'⟩)) (pel_cons (pe_name (d := .int n) (by walk_at "nm")) pel_nil) (opn_range1 (by omega) (by omega) (by omega)) (.inr (.inl ⟨_, rfl⟩))) (by omega)) W) (st _ rfl) fun s₂ p hp W => ?_
  refine sv_newlist o2 W el_nil (st _ rfl) fun s₃ dk hd W3 => ?_
  have hne : p ≠ dk := fun e => by
    obtain ⟨_, us, ⟨_, q⟩, _⟩ := W.F.lst p _ Lst.same
    rw [e, hd] at q; cases q
  refine st_for (J := fun i ρ lst => ρ (K "rest") = some (.at p) ∧ ρ (K "deck") = some (.at dk) ∧ ρ (K "number") = some (.cl (.int (drwGo n num i).num)) ∧ lst p = some ((drwGo n num i).rest.map .int) ∧ lst dk = some ((drwGo n num i).deck.map .int))
    (Jx := fun ρ lst => ρ (K "deck") = some (.at dk) ∧ lst dk = some ((drawn n num).map .int))
    (d := .rng n (-1) n) (n := n) (dat := fun i => .int ((n : Int) + i * (-1))) o2 W3 (PE.ev (pe_call (gl rfl (.inr ⟨X.range, X.range'⟩)) (pel_cons (pe_name (d := .int n) (by walk_at "nm")) (pel_cons pe_int (pel_cons (pe_neg pe_int) pel_nil))) (opn_range_down (by omega) (by omega) (by omega) (by omega) (by omega)) (.inr (.inl ⟨_, rfl⟩))) W3) (.rng (fun i _ => rfl)) (st _ rfl)
    ⟨by walk_at "nm", by walk_at "nm", by walk_at "nm", Lst.ne hne (by rw [Lst.same]; simp [drwGo]), Lst.same⟩ (fun ρ lst h => ⟨h.2.1, h.2.2.2.2⟩) ?turn ?k
  case turn =>
    rintro B' i s₅ own₅ ρ lst hi ⟨h1', h2, h3, h4, h5⟩ W
    obtain ⟨f1, f2, f3, f4⟩ := drw_facts (n := n) h0 h1 i (by omega)
    have hl : (0 : Int) < (n : Int) + (i : Nat) * (-1) := by omega
    have hl' : (n : Int) - i = (n : Int) + (i : Nat) * (-1) := by omega
    have g0 := Int.fmod_nonneg_of_pos (drwGo n num i).num hl
    have g1 := Int.fmod_lt_of_pos (drwGo n num i).num hl
    refine st_append W (by walk_at "nm") (ee_pop_at (i := (drwGo n num i).num.fmod ((n : Int) + (i : Nat) * (-1))) (d := .int ((drwGo n num i).rest.getD ((drwGo n num i).num.fmod ((n : Int) + (i : Nat) * (-1))).toNat 0)) o2 W (by walk_at "nm")
      (pe_bin (pe_name (d := .int (drwGo n num i).num) (by walk_at "nm")) (pe_name (d := .int ((n : Int) + (i : Nat) * (-1))) (by walk_at "nm")) (op_mod (by omega))) h4 (by simp; omega) g0 ?_ fun v s₆ _ W6 r => ⟨_, (drwGo n num i).deck.map .int, _, W6, ?_, by simp; omega, r, fun s₇ W7 => ?_⟩) rfl (not_interactive W.F)
    · rw [List.getElem?_map, List.getD_eq_getElem?_getD, List.getElem?_eq_getElem (by omega)]; rfl
    · rw [Lst.ne (Ne.symm hne) h5]
    · refine st_assign o2 W7 (pe_bin (pe_name (d := .int (drwGo n num i).num) (by walk_at "nm")) (pe_name (d := .int ((n : Int) + (i : Nat) * (-1))) (by walk_at "nm")) (op_div (by omega) (PyProof.noPylong_small (by omega)))) (st _ rfl) fun s₈ W8 => ?_
      refine st_nil ⟨_, _, _, W8, by walk_at "nm", by walk_at "nm", ?_, ?_, ?_⟩
      · rw [Rho.same]; simp only [drwGo, hl']
      · rw [Lst.ne hne (q := some ((drwGo n num (i + 1)).rest.map .int))]
        rw [Lst.same]
        simp only [drwGo, hl']
        congr 1
        rw [List.eraseIdx_eq_take_drop_succ, List.eraseIdx_eq_take_drop_succ]; simp
      · rw [Lst.same]
        simp [drwGo, hl']
  case k =>
    rintro s₅ own₅ ρ lst ⟨h1, h2⟩ W
    refine st_returnAt W h1 ?_
    obtain ⟨hm, us, q, ru⟩ := W.F.lst dk _ h2
    refine k _ _ W.x ?_
    simp only [Rep]
    refine ⟨dk, us, rfl, fun m => ?_, q.isList, ru.less W.incl⟩
    have := W.new dk (.inr (.inr ⟨_, h2⟩))
    obtain ⟨o', e'⟩ := I.live dk m
    rcases this with z | z
    · rw [e'] at z; cases z
    · exact z
end
end Mine

-- part M15
namespace Mine
open PySem PySem.W PyProof.Rows

/-- what the heap says of the class -/
structure WFacts (C : Cx) (ini eqf : Addr) (fi fe : FuncData) : Prop where
  makes : makesIn C.K C.cw = true
  init : findIn C.K (.ref C.cw) "__init__" = some (some (.ref ini))
  initf : typeIn C.K (.ref ini) = some (.type "function")
  over : plainOver C.K C.cw = true
  setat : findIn C.K (.ref C.cw) "__setattr__" = some (some (.builtin "object.__setattr__"))
  has : hasDictIn C.K C.cw = true
  get : ∀ x, plainGet C.K C.cw x = true
  taker : ∀ x ∈ [("raw" : Str), "n", "nt", "norm", "is_simple"], takerIn C.K C.cw x = some none
  own : ∀ x ∈ [("raw" : Str), "norm"], ∃ attr, findIn C.K (.ref C.cw) x = some attr ∧ noGet C.K attr = true
  eqm : findIn C.K (.ref C.cw) "equal" = some (some (.ref eqf))
  isf : isFn C.K (.ref eqf) = true
  reads : ∃ mc, readsIn C.K C.cw mc = true ∧ (∃ t, findCls C.K (.ref C.cw) mc "S" = some (.val (.str " " t))) ∧ ∃ t, findCls C.K (.ref C.cw) mc "T" = some (.val (.str "\t" t))

section
variable {C : Cx} {ini eqf : Addr} {fi fe : FuncData} {A : Around} {E : Value → Shared → Prop} {s : Shared} {x dx : Addr} {es : List DictEntry} {n : Nat} {name : Str} {v : Value}

theorem instAt (hx : s.heap.get? x = some (instObj C.cw dx)) (hd : s.heap.get? dx = some (dictOf es n)) : InstAt s.heap x (instObj C.cw dx) C.cw (some (dictOf es n)) := ⟨hx, rfl, rfl, hd⟩

theorem set_attr {Q : Unit → Shared → Prop} (X : WFacts C ini eqf fi fe) (K : C.K.In s.heap) (hx : s.heap.get? x = some (instObj C.cw dx)) (hd : s.heap.get? dx = some (dictOf es n)) (ht : takerIn C.K C.cw name = some none) (hl : (getL name es).isSome = true)
    (hz : ∀ h k, (putL name h k v es).length ≤ 1000)
    (h : ∀ h' hh k, h'.get? dx = some (dictOf (putL name hh (.str name k) v es) (putN name es n)) → Heap.SameBut dx s.heap h' → Q () { s with heap := h', toks := s.toks + 2 }) :
    wpAny C.M A (setAttr (.ref x) name v) Q E s := by
  refine set_plain K (instAt hx hd) X.setat (osa_open K (instAt hx hd) X.over ht fun b => ?_)
  obtain ⟨cd, hc, hd'⟩ := any_some X.has
  dsimp only
  refine wpAny_bind (wpAny_pure (wpAny_bind (wpAny_bind (wpAny_loadPart hx (wpAny_bind ((looks_clsIn (h := s.heap) K hc).at ?_))))))
  rw [hd']
  refine wpAny_pure (a := some dx) (wpAny_bind (wpAny_pure (wpAny_bind ?_)))
  have hput := putName_dict name (PyData.keyHash C.w.params name) (.str name (s.toks + 1)) v es n
  have c : (!es.toArray.any (·.key.isStr name) && es.toArray.any (·.refKey)) = false := by
    rw [List.any_toArray, List.any_toArray]
    unfold getL at hl
    split at hl
    · rename_i en he
      rw [List.any_eq_true.mpr ⟨en, List.mem_of_find?_eq_some he, List.find?_some he⟩]; rfl
    · split at hl
      · cases hl
      · rename_i z; rw [Bool.not_eq_true] at z; rw [z, Bool.and_false]
  have self : (s.heap.update dx (Obj.putName name (PyData.keyHash C.w.params name) (.str name (s.toks + 1)) v)).get? dx = some (dictOf (putL name (PyData.keyHash C.w.params name) (.str name (s.toks + 1)) v es) (putN name es n)) := by
    rw [← hput]
    exact Heap.get?_update_self _ hd (by rw [hput]; rfl)
  unfold nsSet
  refine wpAny_bind (wpAny_bind (wpAny_askSetting (wpAny_pure (wpAny_bind (wpAny_mkText (wpAny_bind (wpAny_loadPart hd ?_)))))))
  unfold dictOf
  dsimp only
  rw [aRefKeyMayBeTheName_at, c]
  refine wpAny_updatePart hd ?_
  refine wpAny_bind (wpAny_lookBehind self (pastItsLine_dict (by rw [List.size_toArray, sizeLine_eq]; have := hz (PyData.keyHash C.w.params name) (.str name (s.toks + 1)); omega)) ?_)
  exact wpAny_pure (h _ _ _ self (Heap.SameBut.update ..))

theorem get_attr {expr : Bool} {Q : Value → Shared → Prop} {attr : Option Value} (X : WFacts C ini eqf fi fe) (K : C.K.In s.heap) (hx : s.heap.get? x = some (instObj C.cw dx)) (hd : s.heap.get? dx = some (dictOf es n))
    (ha : findIn C.K (.ref C.cw) name = some attr) (hn : noGet C.K attr = true) (hl : getL name es = some (some v)) (hv : handedIn v = true) (h : Q v { s with toks := s.toks + 1 }) :
    wpAny C.M A (getAttr (.ref x) name expr) Q E s :=
  get_value K (instAt hx hd) (plainGet_of (X.get name)).1 (findObj_own X.has ha hn hl) hv h
end
end Mine

-- part M16
namespace Mine
open PySem PySem.W PyProof.Rows

section
variable {C : Cx} {n : Nat} {A : Around} {env : Env} {B : Org} {own : List Addr} {s : Shared} {ρ : Rho} {lst : Lst} {rest : List Stmt} {Q : Flow → Shared → Prop} {E : Value → Shared → Prop}

theorem pe_tuple {es : List Expr} {k : Nat} {pos : Pos} {ds : List D} (h : PEL C n env ρ es ds) (hn : ds.length < 2 ^ 20) : PE C n env ρ (.Tuple es k pos) (.tuple ds) := by
  intro A own lst s Q E o I F kk
  refine PyProof.Rows.Tuple_ (h pos A own lst s _ _ o I F fun vs s₁ x₁ r => wpAny_newTuple ?_ (by rw [r.length, sizeLine_eq]; omega))
  refine kk _ _ (x₁.trans (.push _ s₁ _ s₁.toks)) ?_
  simp only [Rep]
  exact ⟨_, vs, rfl, (I.x0 x₁).notOwn get_size, ⟨_, Heap.get?_push_size _ rfl, rfl, _, rfl⟩, r.keeps fun b o e => Heap.get?_push_of_some _ e⟩
/-- a list display -/
theorem pl_list {es : List Expr} {pos : Pos} {ds : List D} (h : PEL C n env ρ es ds) (hn : ds.length < 2 ^ 20) : PL C n env ρ (.List es pos) ds := by
  intro own lst s I F A Q E o kk
  refine PyProof.Rows.List_ (h pos A own lst s _ _ o I F fun vs s₁ x₁ r => wpAny_newObj_type ?_ (by show vs.toArray.size ≤ sizeLine; rw [List.size_toArray, r.length, sizeLine_eq]; omega))
  refine kk _ vs _ (x₁.trans (.push _ s₁ _ s₁.toks)) (x₁.dead get_size) ⟨_, Heap.get?_push_size _ rfl⟩ ?_
  exact (r.fresh (l := [s₁.heap.objs.size]) fun b m => by rw [List.mem_singleton.mp m]; exact get_size).keeps fun b o e => Heap.get?_push_of_some _ e
theorem op_eqs {a b : Str} : Op2 C n (compareOp .Eq) (.str a) (.str b) (.bool (a == b)) := by
  rintro A own s _ _ Q E o I ⟨t, rfl⟩ ⟨u, rfl⟩ k
  exact PyProof.Rows.eq_str (k _ _ (.refl _ _) rfl)
theorem st_break {pos : Pos} (h : Q .brk s) : wpAny C.M A (execs (.Break pos :: rest) env) Q E s := wpAny_execs_cons (wpAny_Break h)

theorem mul_list1 {l : Addr} {items : Array Value} {k : Nat} {x : Int} {u : Tok} {Q : Value → Shared → Prop}
    (hl : s.heap.get? l = some { cls := .type "list", dict := none, data := .seq items k, slots := #[] })
    (hlo : -(2 ^ 63 : Int) ≤ x) (hhi : x < 2 ^ 63) (hsz : items.size * x.toNat ≤ 2 ^ 24)
    (h : Q (.ref s.heap.objs.size) { s with heap := s.heap.push { cls := .type "list", data := .seq (List.foldl (fun x1 x2 => x1 ++ x2) #[] (List.replicate (if items.isEmpty = true then 0 else x.toNat) items)) } }) :
    wpAny C.M A (binaryOp .Mult (.ref l) (.int x u)) Q E s :=
  wpAny_binaryOp_repeat_ref (T := "list") (U := "int") (by decide) ⟨_, hl, rfl⟩ (fun s' => typeIs_int s' x u) noFill_list_mul F.fills_int_mul F.slot_int_rmul repeat_list F.slot_int_index.lookup
    (call_meets F.slot_int_rmul (typeIs_int s x u) F.entry_int_rmul (F.args_int_rmul_2 _ _) (int___rmul___int_list x u l items k)
      ⟨hl, rfl, ⟨_, hl, rfl⟩, call_meets F.slot_list_mul ⟨_, hl, rfl⟩ F.entry_list_mul (F.args_list_mul_2 _ _)
        (AutoListH.list___mul___list_int_3 l items k x u (by simp [Builtin.List.listFitsIndex]; omega) (by omega) (by simp [Builtin.List.listTooLong, sizeLine]; omega))
        ⟨hl, h⟩⟩)

theorem foldl_replicate (v : Value) : ∀ (k : Nat) (acc : Array Value), List.foldl (fun x1 x2 : Array Value => x1 ++ x2) acc (List.replicate k #[v]) = acc ++ (List.replicate k v).toArray
  | 0, acc => by simp
  | k + 1, acc => by
    rw [List.replicate_succ, List.foldl_cons, foldl_replicate v k, List.replicate_succ]
    apply Array.toList_inj.mp; simp
theorem RepL.replicate {h : Heap} {d : D} {v : Value} (r : Rep C h own v d) : ∀ k : Nat, RepL C h own (List.replicate k v) (List.replicate k d)
  | 0 => by simp [RepL]
  | k + 1 => by rw [List.replicate_succ, List.replicate_succ]; exact RepL.cons r (RepL.replicate r k)

/-- [e] * k -/
theorem el_mul1 {e1 e2 : Expr} {pos : Pos} {d : D} {k : Int} (hl : EL C n env own s e1 [d]) (hk : ∀ s', XB no s s' → EV C n env own s' e2 (.int k)) (h0 : 0 ≤ k) (h1 : k ≤ 2 ^ 20) : EL C n env own s (.BinOp e1 .Mult e2 pos) (List.replicate k.toNat d) := by
  intro A Q E o kk
  refine wpAny_BinOp (hl A _ _ o fun a vs s₁ x₁ n₁ p r => hk s₁ x₁ A _ _ o fun v s₂ x₂ rv => ?_)
  simp only [Rep] at rv
  obtain ⟨t, rfl⟩ := rv
  simp only [RepL] at r
  obtain ⟨v, _, rfl, rd, rfl⟩ := r
  obtain ⟨kk', p⟩ := p
  have p2 := x₂.keeps _ _ p
  refine mul_list1 p2 (by omega) (by omega) (by simp; omega) ?_
  refine kk _ (List.replicate k.toNat v) _ ((x₁.trans x₂).trans (.push _ s₂ _ s₂.toks)) (x₁.dead (x₂.dead get_size)) ⟨0, ?_⟩ ?_
  · rw [Heap.get?_push_size _ rfl]
    simp [foldl_replicate]
  · have r2 : RepL C s₂.heap own (List.replicate k.toNat v) (List.replicate k.toNat d) := (RepL.replicate (rd.keeps x₂.keeps) _).less fun b m => List.mem_cons_of_mem _ m
    exact (r2.fresh (l := [s₂.heap.objs.size]) fun b m => by rw [List.mem_singleton.mp m]; exact get_size).keeps fun b o e => Heap.get?_push_of_some _ e

/-- x + e, where x names an own list -/
theorem el_addAt {x : Str} {px pos : Pos} {p : Addr} {e2 : Expr} {ds1 ds2 : List D} (W : Fw C env B s own ρ lst) (hx : ρ x = some (.at p)) (hl : lst p = some ds1) (h2 : EL C n env own s e2 ds2) (hn : ds1.length + ds2.length < 2 ^ 20)
    (hd : (x == ("__debug__" : Str)) = false := by decide) (hc : (x == ("__classdict__" : Str)) = false := by decide) :
    EL C n env own s (.BinOp (.Name x px) .Add e2 pos) (ds1 ++ ds2) := by
  intro A Q E o kk
  obtain ⟨v, r, rfl, _⟩ := W.F.get x _ hx
  refine wpAny_BinOp (wpAny_Name (r.load W.F.kind ?_ hc) hd)
  obtain ⟨_, vs, p1, r1⟩ := W.F.lst p ds1 hl
  refine h2 A _ _ o fun a us s₁ x₁ n₁ p2 r2 => ?_
  obtain ⟨k1, q1⟩ := p1
  obtain ⟨k2, q2⟩ := p2
  refine PySem.P.add_list (n := k1) (n2 := k2) (x₁.keeps _ _ q1) q2 ?_ (by simp only [List.size_toArray, r1.length, r2.length, sizeLine_eq]; omega)
  refine kk _ (vs ++ us) _ (x₁.trans (.push _ s₁ _ s₁.toks)) (x₁.dead get_size) ⟨0, ?_⟩ ?_
  · rw [Heap.get?_push_size _ rfl]; simp
  · have rr : RepL C s₁.heap own (vs ++ us) (ds1 ++ ds2) := (r1.keeps x₁.keeps).append (r2.less fun b m => List.mem_cons_of_mem _ m)
    exact (rr.fresh (l := [s₁.heap.objs.size]) fun b m => by rw [List.mem_singleton.mp m]; exact get_size).keeps fun b o e => Heap.get?_push_of_some _ e

theorem RepL.set {h : Heap} : ∀ {ds : List D} {vs : List Value} {d : D} {v : Value} (i : Nat), RepL C h own vs ds → Rep C h own v d → RepL C h own (vs.set i v) (ds.set i d)
  | [], vs, d, v, i, r, _ => by simp only [RepL] at r; subst r; simp [RepL]
  | e :: ds, vs, d, v, i, r, rv => by
    simp only [RepL] at r
    obtain ⟨u, t, rfl, r1, r2⟩ := r
    cases i with
    | zero => exact RepL.cons rv r2
    | succ i => exact RepL.cons r1 (RepL.set i r2 rv)
/-- an item of a plain list is put: the heap behind it, to the letter -/
theorem put_at {items : List Value} {l : Addr} {m : Nat} {i : Int} {t : Tok} {v : Value} {Q : Unit → Shared → Prop} {E : Value → Shared → Prop} (p : s.heap.get? l = some { cls := .type "list", data := .seq (List.toArray items) m }) (h0 : 0 ≤ i) (hf : i < 2 ^ 63) (hi : i < items.length)
    (k : Q () { s with heap := s.heap.update l (Obj.mapSeq (·.setIfInBounds i.toNat v)) }) : wpAny C.M A (setItem (.ref l) (.int i t) v) Q E s := by
  have L : s.heap.IsList l (List.toArray items) := ⟨_, p, rfl, m, rfl⟩
  have ok := fitsIndex_of h0 hf
  clear hf
  unfold setItem
  try with_reducible refine wpAny_holding ?_
  first | refine wpAny_bind (wpAny_pure ?_) | skip
  refine wpAny_bind (wpAny_sequenceKey L.typeIs (by decide) ?_)
  refine wpAny_bind (wpAny_callSpecial?_slot (name := Str.ofString "__setitem__") L.typeIs slot_list_setitem (wpAny_call_entry slot_list_setitem L.typeIs entry_list_setitem ?_ (args_list_setitem _ _ _)))
  show wpAny _ _ (Builtin.List.listSubscript? (.int i t) >>= _) _ _ s
  refine wpAny_bind (wpAny_listSubscript_int ok ?_)
  obtain ⟨j, rfl⟩ := Int.eq_ofNat_of_zero_le h0
  have hj : j < items.length := by omega
  have at_ : (List.toArray items)[j]? = some items[j] := by simp [hj]
  show wpAny _ _ ((seqItemAt l j >>= fun r => pure (r.map (j, ·))) >>= _) _ _ s
  refine wpAny_bind (wpAny_bind (wpAny_seqItemAt p rfl (wpAny_pure ?_)))
  rw [at_]
  show wpAny _ _ (setSeqItemAt l j v >>= _) _ _ s
  refine wpAny_bind (wpAny_setSeqItemAt p rfl ?_)
  first
    | exact wpAny_bind (wpAny_pure (wpAny_pure ⟨.none, rfl, wpAny_pure k⟩))
    | exact wpAny_pure ⟨.none, rfl, wpAny_pure k⟩
/-- x[i] = e -/
theorem st_setitem {x : Str} {px pos ppos : Pos} {p : Addr} {ei e : Expr} {ds : List D} {i : Int} {d : D} (o : Ok n A) (W : Fw C env B s own ρ lst) (hx : ρ x = some (.at p)) (hl : lst p = some ds) (he : EV C n env own s e d)
    (hi : PE C n env ρ ei (.int i)) (h0 : 0 ≤ i) (hlt : i < ds.length) (hn : ds.length < 2 ^ 20)
    (k : ∀ s', Fw C env B s' own ρ (lst.set p (ds.set i.toNat d)) → wpAny C.M A (execs rest env) Q E s')
    (hs : swapsWith e (some (.Subscript (.Name x px) ei ppos)) pos.line env = pure false := by rfl)
    (hd : (x == ("__debug__" : Str)) = false := by decide) (hc : (x == ("__classdict__" : Str)) = false := by decide) :
    wpAny C.M A (execs (.Assign [.Subscript (.Name x px) ei ppos] e pos :: rest) env) Q E s := by
  refine wpAny_execs_cons (wpAny_Assign_Subscript (he A _ _ o fun v s₁ x₁ rv => ?_) hs)
  have W₁ := W.x0 x₁
  obtain ⟨u, r, rfl, _⟩ := W₁.F.get x _ hx
  refine wpAny_Name (r.load W₁.F.kind ?_ hc) hd
  refine hi.use o W₁ fun iv s₂ x₂ ri => ?_
  simp only [Rep] at ri
  obtain ⟨t, rfl⟩ := ri
  have W₂ := W₁.x0 x₂
  obtain ⟨_, vs, pl, rl⟩ := W₂.F.lst p ds hl
  have hlen := rl.length
  obtain ⟨m, q⟩ := pl
  refine put_at q h0 (by omega) (by omega) (k _ (W₂.turn (vs' := vs.set i.toNat v) hl ⟨m, q⟩ ?_ (Heap.SameBut.update ..) (rl.set i.toNat (rv.keeps x₂.keeps)) s₂.toks))
  have z := (plain_turn ⟨m, q⟩ fun xs => xs.setIfInBounds i.toNat v).1
  have e : (List.toArray vs).setIfInBounds i.toNat v = List.toArray (vs.set i.toNat v) := by simp
  rwa [e] at z

/-- a = b = c = e -/
theorem st_assign3 {x y z : Str} {px py pz pos : Pos} {e : Expr} {d : D} (o : Ok n A) (W : Fw C env B s own ρ lst) (he : PE C n env ρ e d) (hx : Stores env x) (hy : Stores env y) (hz : Stores env z)
    (k : ∀ s', Fw C env B s' own (((ρ.set x (.cl d)).set y (.cl d)).set z (.cl d)) lst → wpAny C.M A (execs rest env) Q E s')
    (hr : ∀ v (s' : Shared), XB no s s' → Rep C s'.heap own v d → ∀ s'' : Shared, Rep C s''.heap own v d)
    (hw : swappedStores [.Name x px, .Name y py, .Name z pz] e env = pure none := by rfl) :
    wpAny C.M A (execs (.Assign [.Name x px, .Name y py, .Name z pz] e pos :: rest) env) Q E s := by
  refine wpAny_execs_cons (wpAny_Assign_three (he.use o W fun v s₁ x₁ r => ?_) rfl hw)
  refine wpAny_assign_Name (store_name (p := .cl d) (W.x0 x₁) hx r fun s₂ W₂ => ?_)
  refine wpAny_assign_Name (store_name (p := .cl d) W₂ hy (hr v s₁ x₁ r s₂) fun s₃ W₃ => ?_)
  exact wpAny_assign_Name (store_name (p := .cl d) W₃ hz (hr v s₁ x₁ r s₃) fun s₄ W₄ => k s₄ W₄)

/-- an own list is frozen: from now on it is data -/
theorem Fw.frz (W : Fw C env B s own ρ lst) {x : Str} {a : Addr} {ds : List D} (hx : ρ x = some (.at a)) (hl : lst a = some ds) (hB : a ∉ B.own) : Fw C env B s (own.filter fun b => !(b == a)) (ρ.bor x ds) noL :=
  let ⟨I, F⟩ := W.bor hx hl
  ⟨I, F, W.x, fun c hc => W.new c (by
    rcases hc with hc | hc | ⟨ds, e⟩
    · exact .inl hc
    · exact .inr (.inl hc)
    · cases e), fun b m => W.grow b (List.mem_filter.mp m).1, fun b m => List.mem_filter.mpr ⟨W.incl b m, by simp; rintro rfl; exact hB m⟩⟩

/-- tuple(e) -/
theorem opn_tuple_list {ds : List D} (hn : ds.length < 2 ^ 20) : OpN C n (.type "tuple") [.list ds] (.tuple ds) := by
  intro A own s vs Q E o I r k
  simp only [RepL, Rep] at r
  obtain ⟨_, _, rfl, ⟨a, us, rfl, ha, l, ru⟩, rfl⟩ := r
  refine call_tuple_list l (fun h' kk => ?_) (by rw [List.size_toArray, ru.length, sizeLine_eq]; omega)
  have x1 : XB no s { s with heap := h'.push { cls := .type "tuple", data := .seq us.toArray } } := .of_heap (tk := s.toks) fun b o e => Heap.get?_push_of_some _ (kk b o e)
  refine k _ _ x1 ?_
  simp only [Rep]
  refine ⟨_, us, rfl, I.notOwn ?_, ⟨_, Heap.get?_push_size _ rfl, rfl, _, rfl⟩, ru.keeps x1.keeps⟩
  cases e : s.heap.get? h'.objs.size with
  | none => rfl
  | some o => have := kk _ _ e; rw [get_size] at this; cases this

/-- an attribute of the class -/
theorem pe_cls {ini eqf : Addr} {fi fe : FuncData} (X : WFacts C ini eqf fi fe) {cn attr : Str} {p pos : Pos} {d : Str} {t : Tok} {mc : Value} (g : GN C env cn (.ref C.cw)) (hr : readsIn C.K C.cw mc = true) (hf : findCls C.K (.ref C.cw) mc attr = some (.val (.str d t)))
    (hd : (cn == ("__debug__" : Str)) = false := by decide) : PE C n env ρ (.Attribute (.Name cn p) attr pos) (.str d) := by
  intro A own lst s Q E o I F k
  refine PyProof.Rows.Attribute_any_ (gn_eval g I F ?_ hd)
  exact cls_value I.K hr hf rfl (k _ _ (.tok _ _ _) ⟨_, rfl⟩)

/-- a, b = (e, f) -/
theorem st_swap2 {x y : Str} {px py p1 p2 pos : Pos} {k1 k2 : Nat} {e f : Expr} {d1 d2 : D} (o : Ok n A) (W : Fw C env B s own ρ lst) (he : PEL C n env ρ [e, f] [d1, d2]) (hx : Stores env x) (hy : Stores env y)
    (k : ∀ s', Fw C env B s' own ((ρ.set y (.cl d2)).set x (.cl d1)) lst → wpAny C.M A (execs rest env) Q E s')
    (hr : ∀ v (s' : Shared), Rep C s'.heap own v d1 → ∀ s'' : Shared, Rep C s''.heap own v d1)
    (hs : swapsWithSole [.Tuple [.Name x px, .Name y py] k1 p1] (.Tuple [e, f] k2 p2) pos.line env = pure false := by rfl)
    (hw : swappedStores [.Tuple [.Name x px, .Name y py] k1 p1] (.Tuple [e, f] k2 p2) env = pure (some [x, y])) :
    wpAny C.M A (execs (.Assign [.Tuple [.Name x px, .Name y py] k1 p1] (.Tuple [e, f] k2 p2) pos :: rest) env) Q E s := by
  refine wpAny_execs_cons (PyProof.Rows.Assign_Tuple_swapped ?_ hs hw)
  refine PyProof.Rows.Tuple_ (he _ A own lst s _ _ o W.I W.F fun vs s₁ x₁ r => wpAny_newTuple ?_ (by rw [r.length, sizeLine_eq]; simp))
  simp only [RepL] at r
  obtain ⟨v1, _, rfl, r1, v2, _, rfl, r2, rfl⟩ := r
  have x2 : XB no s₁ { s₁ with heap := s₁.heap.push { cls := .type "tuple", data := .seq (List.toArray [v1, v2]) } } := .push _ _ _ s₁.toks
  have u := @PyProof.Rows.unpackItems_tuple C.prog C.w A E { s₁ with heap := s₁.heap.push { cls := .type "tuple", data := .seq (List.toArray [v1, v2]) } } s₁.heap.objs.size #[v1, v2]
    (fun items s₂ => wpAny C.M A (assignInOrder (([x, y] : List Str).reverse.map fun n => bindName env n) items.reverse) (fun _ s' => wpAny C.M A (execs rest env) Q E s') E s₂) o.handled ⟨_, Heap.get?_push_size _ rfl, rfl, _, rfl⟩ fun h' ex => ?_
  · exact u
  · have x3 : XB no { s₁ with heap := s₁.heap.push { cls := .type "tuple", data := .seq (List.toArray [v1, v2]) } } { s₁ with heap := h' } :=
      .of_heap (tk := s₁.toks) fun b o e => ex b o (fun z => by rw [z, get_size] at e; cases e) e
    have W₃ := ((W.x0 x₁).x0 x2).x0 x3
    show wpAny C.M A (assignInOrder [bindName env y, bindName env x] [v2, v1]) _ _ _
    refine wpAny_bind (wpAny_holding (wpAny_bindName (store_name (p := .cl d2) W₃ hy ((r2.keeps x2.keeps).keeps x3.keeps) fun s₄ W₄ => ?_)))
    refine wpAny_bind (wpAny_holding (wpAny_bindName (store_name (p := .cl d1) W₄ hx (hr v1 s₁ r1 s₄) fun s₅ W₅ => ?_)))
    exact wpAny_pure (k _ W₅)
end
end Mine

-- part M17
namespace Mine
open PySem PySem.W PyProof.Rows

def clsBody : List Stmt := match stmtAt 9 with
  | some (.ClassDef _ _ _ b _ _ _ _ _ _ _) => b
  | _ => []
def mBody (i : Nat) : List Stmt := match clsBody[i]? with
  | some (.FunctionDef _ _ b _ _ _ _ _ _ _) => b
  | _ => []
def mScope (i : Nat) : Scope := match clsBody[i]? with
  | some (.FunctionDef _ _ _ _ _ _ s _ _ _) => s
  | _ => default
structure MtAt (C : Cx) (i : Nat) (f : Addr) (fd : FuncData) : Prop where
  ok : FnOK C f fd (mBody i)
  scope : fd.scope = mScope i

structure NFacts (C : Cx) (ini eqf : Addr) (fi fe : FuncData) : Prop extends WFacts C ini eqf fi fe where
  hini : MtAt C 1 ini fi
  heqf : MtAt C 4 eqf fe
  ncls : C.mg (K "Whitespace") = some (.ref C.cw)
  len : C.mg (K "len") = none
  len' : C.mb (K "len") = some (.builtin "len")
  tuple : C.mg (K "tuple") = none
  tuple' : C.mb (K "tuple") = some (.type "tuple")
  bindi : ∀ u v S, peek C.K S (bindArgs fi ⟨[u, v], []⟩) = some [(K "self", u), (K "ws", v)]
  binde : ∀ u v S, peek C.K S (bindArgs fe ⟨[u, v], []⟩) = some [(K "self", u), (K "other", v)]

def bump (c : List Int) (b : Nat) : List Int :=
  let c' := if c.length ≤ b then c ++ List.replicate (b - c.length + 1) 0 else c
  c'.set b (c'.getD b 0 + 1)
def wsRun : List Nat → List Int × Nat → List Int × Nat
  | [], st => st
  | c :: r, st => if c = 32 then wsRun r (st.1, st.2 + 1) else if c = 9 then wsRun r (bump st.1 st.2, 0) else st
def wsOf (x : Str) : List Int × Nat := wsRun x.cps.toList ([], 0)
theorem bump_length (c : List Int) (b : Nat) : (bump c b).length = max c.length (b + 1) := by
  unfold bump
  dsimp only
  split <;> simp <;> omega
theorem sign_eq (c k : Nat) {t : Str} (h : t = ⟨#[k]⟩) : ((⟨#[c]⟩ : Str) == t) = decide (c = k) := by
  subst h
  by_cases e : c = k
  · subst e; simp
  · simp [e]
theorem wsRun_drop {x : Str} {i : Nat} {st : List Int × Nat} (h : i < x.cps.size) : wsRun (x.cps.toList.drop i) st = (if x.cps.getD i 0 = 32 then wsRun (x.cps.toList.drop (i + 1)) (st.1, st.2 + 1) else if x.cps.getD i 0 = 9 then wsRun (x.cps.toList.drop (i + 1)) (bump st.1 st.2, 0) else st) := by
  have e : x.cps.getD i 0 = x.cps.toList[i] := by simp [h]
  rw [List.drop_eq_getElem_cons (by simpa using h), e]
  rfl
theorem sw_init {env : Env} (h : env.scope = mScope 1) {px py p1 p2 q1 q2 q3 q4 : Pos} {k1 k2 : Nat} (hl : (py.line == px.line) = true) :
    swappedStores [.Tuple [.Name (K "S") px, .Name (K "T") py] k1 p1] (.Tuple [.Attribute (.Name (K "Whitespace") q1) (K "S") q2, .Attribute (.Name (K "Whitespace") q3) (K "T") q4] k2 p2) env = pure (some [K "S", K "T"]) := by
  have h1 : env.kindOf (K "S") = some .local := by unfold Env.kindOf; rw [h]; rfl
  have h2 : env.kindOf (K "T") = some .local := by unfold Env.kindOf; rw [h]; rfl
  have h3 : env.blockKind = .function := by unfold Env.blockKind; rw [h]; rfl
  have hl : py.line = px.line := by simpa using hl
  unfold swappedStores
  simp only [List.filterMap_cons, List.filterMap_nil, h1, h2, h3, List.head?_cons, Option.map_some, Option.getD_some]
  have e1 : (Expr.Name (K "S") px).pos = px := rfl
  simp only [e1, hl]
  simp only [beq_self_eq_true, Bool.and_self, if_true]
  rfl
structure WSt (codes : Str) (x : Addr) (i : Nat) (st : List Int × Nat) (ρ : Rho) (lst : Lst) (p : Addr) : Prop where
  len : st.1.length ≤ i
  le : st.2 ≤ i
  self : ρ (K "self") = some (.raw (.ref x))
  b : ρ (K "b") = some (.cl (.int st.2))
  cnt : ρ (K "count") = some (.at p)
  lst : lst p = some (st.1.map .int)
  n : ∃ v, ρ (K "n") = some (.cl (.int v))
  nt : ∃ v, ρ (K "nt") = some (.cl (.int v))
  S : ρ (K "S") = some (.cl (.str " "))
  T : ρ (K "T") = some (.cl (.str "\t"))

local macro_rules | `(tactic| walk_at "nm") => `(tactic| repeat' (first | assumption | exact Rho.same | exact Rho.bor_same | refine Rho.bor_ne (by decide) ?_ | refine Rho.ne (by decide) ?_))

section
variable {C : Cx} {n : Nat} {A : Around} {env : Env} {B : Org} {own : List Addr} {s : Shared} {ρ : Rho} {lst : Lst} {rest : List Stmt} {Q : Flow → Shared → Prop} {E : Value → Shared → Prop} {ini eqf : Addr} {fi fe : FuncData} {x dx : Addr} {es : List DictEntry} {nd : Nat}

theorem dict_not_slot (W : Fw C env B s own ρ lst) (hd : s.heap.get? dx = some (dictOf es nd)) (hne : dx ≠ env.locals) : ¬ slots env lst dx := by
  rintro (z | ⟨n, e⟩ | ⟨ds, e⟩)
  · exact hne z
  · obtain ⟨v, o, e', d'⟩ := W.F.cel n dx e
    rw [hd] at e'; cases e'; cases d'
  · obtain ⟨_, vs, ⟨m, e'⟩, _⟩ := W.F.lst dx ds e
    rw [hd] at e'; cases congrArg Obj.data (Option.some.inj e')

theorem Rho.bor_raw {ρ : Rho} {x y : Str} {ds : List D} {u : Value} (h : (y == x) = false) (e : ρ y = some (.raw u)) : (ρ.bor x ds) y = some (.raw u) := by
  unfold Rho.bor
  rw [if_neg (by simpa using h), e]
theorem Fw.wide (W : Fw C env B s own ρ lst) {ch' : Addr → Prop} (h : ∀ a, B.ch a → ch' a) : Fw C env ⟨B.s, B.own, ch'⟩ s own ρ lst := ⟨W.I, W.F, W.x.mono h, fun c hc => (W.new c hc).imp id (h c), W.grow, W.incl⟩

/-- self.name = e -/
theorem st_setattr {nm : Str} {px apos pos : Pos} {e : Expr} {d : D} {self : Str} (X : WFacts C ini eqf fi fe) (o : Ok n A) (W : Fw C env B s own ρ lst) (hself : ρ self = some (.raw (.ref x))) (he : PE C n env ρ e d)
    (hx : s.heap.get? x = some (instObj C.cw dx)) (hd : s.heap.get? dx = some (dictOf es nd)) (hne : dx ≠ env.locals) (hxd : x ≠ dx) (hdo : dx ∈ own) (hB : B.s.heap.get? dx = none ∨ B.ch dx)
    (ht : takerIn C.K C.cw nm = some none) (hl : (getL nm es).isSome = true) (hz : ∀ h k v, (putL nm h k v es).length ≤ 1000)
    (k : ∀ s' v hh key, XB (one dx) s s' → Fw C env B s' own ρ lst → Rep C s'.heap own v d → s'.heap.get? x = some (instObj C.cw dx) → s'.heap.get? dx = some (dictOf (putL nm hh (.str nm key) v es) (putN nm es nd)) → wpAny C.M A (execs rest env) Q E s')
    (hs : swapsWith e (some (.Attribute (.Name self px) nm apos)) pos.line env = pure false := by rfl)
    (hdb : (self == ("__debug__" : Str)) = false := by decide) (hc : (self == ("__classdict__" : Str)) = false := by decide) :
    wpAny C.M A (execs (.Assign [.Attribute (.Name self px) nm apos] e pos :: rest) env) Q E s := by
  refine wpAny_execs_cons (plainObj_wpAny_Assign_Attribute (he.use o W fun v s₁ x₁ rv => ?_) hs)
  have W₁ := W.x0 x₁
  have hx₁ := x₁.keeps _ _ hx
  have hd₁ := x₁.keeps _ _ hd
  have ns := dict_not_slot W₁ hd₁ hne
  obtain ⟨u, r, rfl⟩ := W₁.F.get self _ hself
  refine wpAny_Name (r.load W₁.F.kind ?_ hc) hdb
  refine set_attr X W₁.I.K hx₁ hd₁ ht hl (fun h k => hz h k v) fun h' hh key g sb => ?_
  have y : XB (one dx) s₁ { s₁ with heap := h', toks := s₁.toks + 2 } := .sameBut sb ⟨_, g⟩
  have W₂ : Fw C env B { s₁ with heap := h', toks := s₁.toks + 2 } own ρ lst := W₁.dropC (ch := one dx) (fun _ _ e => e) (fun _ _ e => e) (by rintro a rfl; exact ⟨hdo, hB⟩) (by rintro a rfl _; exact hdo) (fun z => hne z.symm) (fun n c e z => ns (.inr (.inl ⟨n, by rw [← (show c = dx from z)]; exact e⟩)))
    (fun y b e z => by
      obtain ⟨_, _, _, _, its, p⟩ := W₁.F.get y _ e
      rw [show b = dx from z] at p; obtain ⟨_, p⟩ := p; rw [hd₁] at p; cases congrArg Obj.data (Option.some.inj p)) (fun b ds e z => ns (.inr (.inr ⟨ds, by rw [← (show b = dx from z)]; exact e⟩))) y (fun _ m => m) fun _ m _ => m
  exact k _ v hh key (x₁.nil.trans y) W₂ (rv.sameBut sb hdo) ((sb.2 x hxd).trans hx₁) g

/-- self.name, read -/
theorem ev_attr {nm : Str} {px apos : Pos} {d : D} {self : Str} {attr : Option Value} {v : Value} (X : WFacts C ini eqf fi fe) (W : Fw C env B s own ρ lst) (hself : ρ self = some (.raw (.ref x)))
    (hx : s.heap.get? x = some (instObj C.cw dx)) (hd : s.heap.get? dx = some (dictOf es nd)) (ha : findIn C.K (.ref C.cw) nm = some attr) (hn : noGet C.K attr = true) (hl : getL nm es = some (some v)) (hv : handedIn v = true) (r : Rep C s.heap own v d)
    (hdb : (self == ("__debug__" : Str)) = false := by decide) (hc : (self == ("__classdict__" : Str)) = false := by decide) : EV C n env own s (.Attribute (.Name self px) nm apos) d := by
  intro A Q E o k
  refine PyProof.Rows.Attribute_any_ ?_
  obtain ⟨u, rd, rfl⟩ := W.F.get self _ hself
  refine wpAny_Name (rd.load W.F.kind ?_ hc) hdb
  exact get_attr X W.I.K hx hd ha hn hl hv (k _ _ (.tok _ _ _) r)

/-- Whitespace.__init__ -/
theorem ini_spec (X : NFacts C ini eqf fi fe) {codes : Str} {v : Value} {R : Result → Shared → Prop} (hsz : codes.cps.size < 2 ^ 18) (o : Ok 4 A) (I : Inv C s own) (hxo : x ∈ own) (hdo : dx ∈ own) (hxd : x ≠ dx) (hx : s.heap.get? x = some (instObj C.cw dx)) (hd : s.heap.get? dx = some (dictOf [] 0))
    (hv : Rep C s.heap own v (.str codes))
    (k : ∀ s' es nd nv, XB (one dx) s s' → s'.heap.get? dx = some (dictOf es nd) → getL "norm" es = some (some nv) → getL "equal" es = some none → Rep C s'.heap own nv (.tuple [.tl (wsOf codes).1, .int (wsOf codes).2]) → R (.ok (.ret .none)) s') :
    codeAny C.M A (.call (.ref ini) ⟨[.ref x, v], []⟩) R s := by
  refine enter (ps := [(K "self", .raw (.ref x)), (K "ws", .cl (.str codes))]) (ch := no) (lst := noL) o I X.hini.ok (binds_peek I.K (X.bindi _ v)) (by rw [X.hini.scope]; rfl) (by rw [X.hini.scope]; rfl)
    (.cons rfl (.cons hv .nil)) (fun _ _ e => by cases e) (fun s₁ env he hL hc W => ?_) (by rw [X.hini.scope]; rfl)
  simp only [rhoOf] at W
  have o2 : Ok 3 (A.deeper env) := o.deeper
  have st : ∀ x, (mScope 1).names.lookup x = some .local → Stores env x := fun x e => .inl (ko he X.hini.scope e)
  have gl : ∀ {x v}, (mScope 1).names.lookup x = some .globalImplicit → (C.mg x = some v ∨ (C.mg x = none ∧ C.mb x = some v)) → GN C env x v := fun e h => ⟨ko he X.hini.scope e, h⟩
  have hne : dx ≠ env.locals := fun z => by rw [← z, hd] at hL; cases hL
  have hx₁ := W.x.keeps _ _ hx
  have hd₁ := W.x.keeps _ _ hd
  have W := W.wide (ch' := one dx) fun _ h => h.elim
  have hdB : (⟨s, own, one dx⟩ : Org).s.heap.get? dx = none ∨ (⟨s, own, one dx⟩ : Org).ch dx := .inr rfl
  have hLo : ∀ {s' : Shared} {own' ρ lst}, Fw C env ⟨s, own, one dx⟩ s' own' ρ lst → dx ∈ own' ∧ x ∈ own' := fun W => ⟨W.incl _ hdo, W.incl _ hxo⟩
  obtain ⟨mc, hr, ⟨tS, hS⟩, ⟨tT, hT⟩⟩ := X.reads
  refine st_setattr (es := []) (nd := 0) X.toWFacts o2 W (by walk_at "nm") (pe_name (d := .str codes) (by walk_at "nm")) hx₁ hd₁ hne hxd (hLo W).1 hdB (X.taker _ (by simp)) rfl (fun _ _ _ => Nat.le_of_ble_eq_true rfl) fun s₂ v₂ hh₂ key₂ _ W2 rv₂ hx₂ hd₂ => ?_
  have e₂ : putL ("raw" : Str) hh₂ (.str "raw" key₂) v₂ [] = [⟨hh₂, .str "raw" key₂, v₂⟩] := rfl
  have W := W2.rebase
  refine st_swap2 (d1 := .str " ") (d2 := .str "\t") o2 W (pel_cons (pe_cls X.toWFacts (gl rfl (.inl X.ncls)) hr hS) (pel_cons (pe_cls X.toWFacts (gl rfl (.inl X.ncls)) hr hT) pel_nil)) (st _ rfl) (st _ rfl) (fun s₃ W => ?_) (fun v _ r _ => r) rfl (sw_init (he.trans X.hini.scope) rfl)
  refine sv_newlist o2 W el_nil (st _ rfl) fun s₄ p hp W => ?_
  refine st_assign3 (d := .int 0) o2 W pe_int (st _ rfl) (st _ rfl) (st _ rfl) (fun s₅ W => ?_) (fun v _ _ r _ => r)
  have ns₂ := dict_not_slot W2 hd₂ hne
  have hx₅ := W.x.keep _ _ (fun z => by
    rcases z with (z | ⟨n, e⟩ | ⟨ds, e⟩)
    · rw [z] at hx; rw [hx] at hL; cases hL
    · rw [hc] at e; cases e
    · cases e) hx₂
  have hd₅ := W.x.keep _ _ ns₂ hd₂
  obtain ⟨at1, ha1, hn1⟩ := X.own ("raw" : Str) (by simp)
  have rv₅ : Rep C s₅.heap (p :: (env.locals :: own)) v₂ (.str codes) := rv₂
  obtain ⟨tv, rfl⟩ := rv₂
  refine st_for (J := fun i ρ lst => ∃ st p, wsOf codes = wsRun (codes.cps.toList.drop i) st ∧ WSt codes x i st ρ lst p) (Jx := fun ρ lst => ∃ p, WSt codes x codes.cps.size (wsOf codes) ρ lst p) (d := .str codes) (n := codes.cps.size) (dat := fun i => .str ⟨#[codes.cps.getD i 0]⟩) o2 W
    (ev_attr X.toWFacts W (by walk_at "nm") hx₅ (e₂ ▸ hd₅) ha1 hn1 rfl rfl rv₅) (.str rfl fun i c e => by simp [e]) (st _ rfl)
    ⟨([], 0), p, rfl, ⟨Nat.zero_le _, Nat.zero_le _, by walk_at "nm", by walk_at "nm", by walk_at "nm", by rw [Lst.same]; rfl, ⟨0, by walk_at "nm"⟩, ⟨0, by walk_at "nm"⟩, by walk_at "nm", by walk_at "nm"⟩⟩ (fun ρ lst h => ?fin) ?turn ?k
  case fin =>
    obtain ⟨st, p, e, h⟩ := h
    rw [List.drop_of_length_le (by simp)] at e
    rw [e]
    exact ⟨p, h⟩
  case turn =>
    rintro B' i s₆ own₆ ρ lst hi ⟨⟨cnt, b⟩, p, e, H⟩ W
    rw [wsRun_drop hi] at e
    obtain ⟨n0, hn0⟩ := H.n
    obtain ⟨n1, hn1⟩ := H.nt
    have hb := H.b
    have hS := H.S
    have hT := H.T
    have hcnt := H.cnt
    have hself := H.self
    have hlen := H.len
    have hle := H.le
    have hlst := H.lst
    dsimp only at e hb hlen hle hlst
    refine st_if o2 W (pt_cmp (pe_name (by walk_at "nm")) (pe_name (d := .str " ") (by walk_at "nm")) op_eqs) fun s₇ W => ?_
    rw [sign_eq _ 32 (t := " ") (by decide)]
    by_cases h32 : codes.cps.getD i 0 = 32
    · rw [if_pos h32] at e
      simp only [h32, decide_true, if_true]
      refine st_assign o2 W (pe_bin (pe_name (d := .int n0) (by walk_at "nm")) pe_int op_add) (st _ rfl) fun s₈ W => ?_
      refine st_assign o2 W (pe_bin (pe_name (d := .int b) (by walk_at "nm")) pe_int op_add) (st _ rfl) fun s₉ W => ?_
      refine st_nil (st_nil ⟨_, _, _, W, (cnt, b + 1), p, e, ?_⟩)
      exact ⟨by show cnt.length ≤ _; omega, by show b + 1 ≤ _; omega, by walk_at "nm", by rw [Rho.same]; rfl, by walk_at "nm", by walk_at "nm", ⟨_, by walk_at "nm"⟩, ⟨_, by walk_at "nm"⟩, by walk_at "nm", by walk_at "nm"⟩
    · rw [if_neg h32] at e
      simp only [h32, decide_false, Bool.false_eq_true, if_false]
      refine st_if o2 W (pt_cmp (pe_name (by walk_at "nm")) (pe_name (d := .str "\t") (by walk_at "nm")) op_eqs) fun s₈ W => ?_
      rw [sign_eq _ 9 (t := "\t") (by decide)]
      by_cases h9 : codes.cps.getD i 0 = 9
      · rw [if_pos h9] at e
        simp only [h9, decide_true, if_true]
        refine st_assign o2 W (pe_bin (pe_name (d := .int n0) (by walk_at "nm")) pe_int op_add) (st _ rfl) fun s₉ W => ?_
        refine st_assign o2 W (pe_bin (pe_name (d := .int n1) (by walk_at "nm")) pe_int op_add) (st _ rfl) fun s₁₀ W => ?_
        let cnt' := if cnt.length ≤ b then cnt ++ List.replicate (b - cnt.length + 1) 0 else cnt
        have hcl : b < cnt'.length ∧ cnt'.length ≤ i + 1 ∧ cnt'.length = max cnt.length (b + 1) := by
          by_cases h : cnt.length ≤ b
          · have : cnt' = cnt ++ List.replicate (b - cnt.length + 1) 0 := if_pos h
            rw [this, List.length_append, List.length_replicate]; omega
          · have : cnt' = cnt := if_neg h
            rw [this]; omega
        have hbump : bump cnt b = cnt'.set b (cnt'.getD b 0 + 1) := rfl
        have lenE : ∀ {q : Nat} {ρ : Rho} {c : List Int}, c.length < 2 ^ 62 → ρ (K "count") = some (.cl (.il c)) → ∀ (p1 p2 p3 : Pos), PE C 3 env ρ (.Call (.Name (K "len") p1) [.Name (K "count") p2] [] p3) (.int c.length) := fun {q ρ c} h0 hq p1 p2 p3 => by
          have := pe_call (gl rfl (.inr ⟨X.len, X.len'⟩)) (pel_cons (pe_name (p := p2) (d := .il c) hq) pel_nil) (opn_len (C := C) (n := 3) (ds := c.map .int) (by simpa using h0)) (.inl ⟨_, rfl⟩) (p := p1) (pos := p3)
          simpa using this
        have tail : ∀ s' own' ρ' lst' p', Fw C env B' s' own' ρ' lst' → ρ' (K "self") = some (.raw (.ref x)) → ρ' (K "b") = some (.cl (.int b)) → ρ' (K "count") = some (.at p') → lst' p' = some (cnt'.map .int) → (∃ v, ρ' (K "n") = some (.cl (.int v))) → (∃ v, ρ' (K "nt") = some (.cl (.int v))) →
            ρ' (K "S") = some (.cl (.str " ")) → ρ' (K "T") = some (.cl (.str "\t")) → ∀ (p1 p2 p3 p4 p5 p6 p7 p8 p9 p10 p11 p12 : Pos) (k1 k2 : Nat) (E' : Value → Shared → Prop), wpAny C.M (A.deeper env) (execs [.Assign [.Subscript (.Name (K "count") p1) (.Name (K "b") p2) p3] (.BinOp (.Subscript (.Name (K "count") p4) (.Name (K "b") p5) p6) .Add (.Constant (.int 1) k1 p7) p8) p9, .Assign [.Name (K "b") p10] (.Constant (.int 0) k2 p11) p12] env)
              (fun f s'' => f = .next ∧ ∃ own'' ρ'' lst'', Fw C env B' s'' own'' ρ'' lst'' ∧ ∃ st p, wsOf codes = wsRun (codes.cps.toList.drop (i + 1)) st ∧ WSt codes x (i + 1) st ρ'' lst'' p) E' s' := by
          intro s' own' ρ' lst' p' W h1 h2 h3 h4 h5 h6 h7 h8 p1 p2 p3 p4 p5 p6 p7 p8 p9 p10 p11 p12 k1 k2 E'
          have hbl : b < cnt'.length := hcl.1
          refine st_setitem (d := .int (cnt'.getD b 0 + 1)) (i := b) o2 W h3 h4 (PE.evi (x := K "count") (pe_bin (pe_item (d := .int (cnt'.getD b 0)) (i := b) (pe_name (d := .il cnt') (by walk_at "nm")) (pe_name (d := .int b) (by walk_at "nm")) (by omega) ?_ (by omega)) pe_int op_add) W h3 h4) (pe_name (d := .int b) h2) (by omega) (by simp; omega) (by simp; omega) fun s₁ W => ?_
          · rw [Int.toNat_natCast, List.getElem?_map, List.getD_eq_getElem?_getD, List.getElem?_eq_getElem hbl]; rfl
          · refine st_assign o2 W pe_int (st _ rfl) fun s₂ W => ?_
            refine st_nil ⟨rfl, _, _, _, W, (bump cnt b, 0), p', e, ?_⟩
            refine ⟨by show (bump cnt b).length ≤ _; rw [bump_length]; omega, Nat.zero_le _, by walk_at "nm", by walk_at "nm", by walk_at "nm", ?_, let ⟨v, h⟩ := h5; ⟨v, by walk_at "nm"⟩, let ⟨v, h⟩ := h6; ⟨v, by walk_at "nm"⟩, by walk_at "nm", by walk_at "nm"⟩
            rw [Lst.same, hbump]
            simp
        refine sv_if o2 W (PT.tvi (x := K "count") (pt_cmp (pe_name (d := .int b) (by walk_at "nm")) (lenE (q := 0) (by omega) Rho.bor_same _ _ _) op_ge) W (by walk_at "nm") hlst) fun s₁₁ W => ⟨fun hge => ?_, fun hge => ?_⟩
        · have hge := of_decide_eq_true hge
          have hge : cnt.length ≤ b := by omega
          have hc' : cnt' = cnt ++ List.replicate (b - cnt.length + 1) 0 := if_pos hge
          have e3 : cnt.map D.int ++ List.replicate ((b : Int) - cnt.length + 1).toNat (D.int 0) = cnt'.map D.int := by
            have e2 : ((b : Int) - cnt.length + 1).toNat = b - cnt.length + 1 := by omega
            rw [hc', List.map_append, List.map_replicate, e2]
          refine sv_newlist (ds := cnt.map D.int ++ List.replicate ((b : Int) - cnt.length + 1).toNat (D.int 0)) o2 W (el_addAt (p := p) W (by walk_at "nm") hlst (el_mul1 (d := .int 0) (k := (b : Int) - cnt.length + 1) (PL.el (pl_list (pel_cons pe_int pel_nil) (by simp)) W)
            (fun s' x => PE.evi (x := K "count") (a := p) (ds := cnt.map D.int) (pe_bin (pe_bin (pe_name (d := .int b) (by walk_at "nm")) (lenE (q := 0) (by omega) Rho.bor_same _ _ _) op_sub) pe_int op_add) (W.x0 x) (by walk_at "nm") hlst) (by omega) (by omega)) (by simp; omega)) (st _ rfl) fun s₁₂ q hq W => ?_
          · refine st_nil ?_
            refine wpAny_mono (tail _ _ _ _ q W (by walk_at "nm") (by walk_at "nm") (by walk_at "nm") (by rw [Lst.same, e3]) ⟨_, by walk_at "nm"⟩ ⟨_, by walk_at "nm"⟩ (by walk_at "nm") (by walk_at "nm") _ _ _ _ _ _ _ _ _ _ _ _ _ _ _) (fun f s'' h => ?_) fun _ _ h => h
            obtain ⟨rfl, own'', ρ'', lst'', W, j⟩ := h
            exact st_nil (st_nil ⟨own'', ρ'', lst'', W, j⟩)
        · have hge := of_decide_eq_false hge
          have hge : ¬ cnt.length ≤ b := by omega
          have hc' : cnt' = cnt := if_neg hge
          refine st_nil ?_
          refine wpAny_mono (tail _ _ _ _ p W (by walk_at "nm") (by walk_at "nm") (by walk_at "nm") (by rw [hc']; exact hlst) ⟨_, by walk_at "nm"⟩ ⟨_, by walk_at "nm"⟩ (by walk_at "nm") (by walk_at "nm") _ _ _ _ _ _ _ _ _ _ _ _ _ _ _) (fun f s'' h => ?_) fun _ _ h => h
          obtain ⟨rfl, own'', ρ'', lst'', W, j⟩ := h
          exact st_nil (st_nil ⟨own'', ρ'', lst'', W, j⟩)
      · rw [if_neg h9] at e
        simp only [h9, decide_false, Bool.false_eq_true, if_false]
        refine st_break ⟨_, _, _, W, p, ?_⟩
        rw [e]
        exact ⟨by show cnt.length ≤ _; omega, by show b ≤ _; omega, by walk_at "nm", by walk_at "nm", by walk_at "nm", by walk_at "nm", ⟨_, by walk_at "nm"⟩, ⟨_, by walk_at "nm"⟩, by walk_at "nm", by walk_at "nm"⟩
  case k =>
    rintro s₆ own₆ ρ lst ⟨p, H⟩ W
    have hx₆ := W.x.keep _ _ (fun z => by
      rcases z with (z | ⟨n, e⟩ | ⟨ds, e⟩)
      · rw [z] at hx; rw [hx] at hL; cases hL
      · rw [hc] at e; cases e
      · cases e) hx₂
    have hd₆ := W.x.keep _ _ ns₂ hd₂
    have W := W2.join W
    have hpB : p ∉ own := fun m => by
      obtain ⟨o', e'⟩ := I.live p m
      rcases W.new p (.inr (.inr ⟨_, H.lst⟩)) with z | z
      · have z : s.heap.get? p = none := z
        rw [e'] at z; cases z
      · have z : p = dx := z
        obtain ⟨_, us, ⟨mm, q⟩, _⟩ := W.F.lst p _ H.lst
        rw [z, hd₆] at q; cases congrArg Obj.data (Option.some.inj q)
    have W := W.frz H.cnt H.lst hpB
    obtain ⟨n0, hn0⟩ := H.n
    obtain ⟨n1, hn1⟩ := H.nt
    have f1 := Rho.bor_raw (x := K "count") (ds := (wsOf codes).1.map .int) (by decide) H.self
    have f2 := Rho.bor_ne (x := K "count") (ds := (wsOf codes).1.map .int) (by decide) H.b
    have f3 := Rho.bor_ne (x := K "count") (ds := (wsOf codes).1.map .int) (by decide) hn0
    have f4 := Rho.bor_ne (x := K "count") (ds := (wsOf codes).1.map .int) (by decide) hn1
    have f5 : (ρ.bor (K "count") ((wsOf codes).1.map .int)) (K "count") = some (.cl (.il (wsOf codes).1)) := Rho.bor_same
    have hlen := H.len
    generalize ρ.bor (K "count") ((wsOf codes).1.map .int) = ρ at W f1 f2 f3 f4 f5
    rw [e₂] at hd₆
    refine st_setattr X.toWFacts o2 W f1 (pe_name f3) hx₆ hd₆ hne hxd (hLo W).1 hdB (X.taker _ (by simp)) rfl (fun _ _ _ => Nat.le_of_ble_eq_true rfl) fun s₇ v₇ hh₇ key₇ y₇ W rv₇ hx₇ hd₇ => ?_
    refine st_setattr X.toWFacts o2 W f1 (pe_name f4) hx₇ hd₇ hne hxd (hLo W).1 hdB (X.taker _ (by simp)) rfl (fun _ _ _ => Nat.le_of_ble_eq_true rfl) fun s₈ v₈ hh₈ key₈ y₈ W rv₈ hx₈ hd₈ => ?_
    refine st_setattr (d := .tuple [.tl (wsOf codes).1, .int (wsOf codes).2]) X.toWFacts o2 W f1 (pe_tuple (pel_cons (pe_call (gl rfl (.inr ⟨X.tuple, X.tuple'⟩)) (pel_cons (pe_name f5) pel_nil) (opn_tuple_list (by simp; omega)) (.inr (.inl ⟨_, rfl⟩))) (pel_cons (pe_name f2) pel_nil)) (by simp))
      hx₈ hd₈ hne hxd (hLo W).1 hdB (X.taker _ (by simp)) rfl (fun _ _ _ => Nat.le_of_ble_eq_true rfl) fun s₉ v₉ hh₉ key₉ y₉ W rv₉ hx₉ hd₉ => ?_
    refine st_setattr X.toWFacts o2 W f1 (pe_cmp (pe_call (gl rfl (.inr ⟨X.len, X.len'⟩)) (pel_cons (pe_name f5) pel_nil) (opn_len (by simp; omega)) (.inl ⟨_, rfl⟩)) pe_int op_le)
      hx₉ hd₉ hne hxd (hLo W).1 hdB (X.taker _ (by simp)) rfl (fun _ _ _ => Nat.le_of_ble_eq_true rfl) fun s₁₀ v₁₀ hh₁₀ key₁₀ y₁₀ W rv₁₀ hx₁₀ hd₁₀ => ?_
    refine st_nil (k s₁₀ _ _ v₉ W.x hd₁₀ rfl rfl ?_)
    exact (rv₉.xb y₁₀ (by rintro a rfl; exact (hLo W).1)).less W.incl
end
end Mine

-- part M18
namespace Mine
open PySem PySem.W PyProof.Rows

mutual
def D.py : D → PyData
  | .none => .none
  | .bool b => .bool b
  | .int i => .int i
  | .str x => .str x
  | .list ds => .list (D.pyL ds)
  | .tuple ds => .tuple (D.pyL ds)
  | .ws _ _ => .none
  | .rng _ _ _ => .none
def D.pyL : List D → List PyData
  | [] => []
  | d :: ds => D.py d :: D.pyL ds
end
mutual
def D.plain : D → Bool
  | .none | .bool _ | .int _ | .str _ => true
  | .list ds | .tuple ds => D.plainL ds
  | .ws _ _ | .rng _ _ _ => false
def D.plainL : List D → Bool
  | [] => true
  | d :: ds => D.plain d && D.plainL ds
end
section
variable {C : Cx} {h : Heap} {own : List Addr}
mutual
theorem Rep.reads : ∀ (d : D) {v : Value}, d.plain = true → Rep C h own v d → ∃ as, Reads h v d.py as
  | .none, v, _, r => by simp only [Rep] at r; subst r; exact ⟨_, .none⟩
  | .bool b, v, _, r => by simp only [Rep] at r; subst r; exact ⟨_, .bool b⟩
  | .int i, v, _, r => by simp only [Rep] at r; obtain ⟨t, rfl⟩ := r; exact ⟨_, .int i t⟩
  | .str x, v, _, r => by simp only [Rep] at r; obtain ⟨t, rfl⟩ := r; exact ⟨_, .str x t⟩
  | .list ds, v, hp, r => by
    simp only [Rep] at r
    obtain ⟨a, vs, rfl, _, ⟨o, h1, h2, n, h3⟩, r⟩ := r
    obtain ⟨as, q⟩ := RepL.reads ds (by simpa only [D.plain] using hp) r
    exact ⟨_, by simp only [D.py]; exact .list h1 h2 h3 (by simpa using q)⟩
  | .tuple ds, v, hp, r => by
    simp only [Rep] at r
    obtain ⟨a, vs, rfl, _, ⟨o, h1, h2, n, h3⟩, r⟩ := r
    obtain ⟨as, q⟩ := RepL.reads ds (by simpa only [D.plain] using hp) r
    exact ⟨_, by simp only [D.py]; exact .tuple h1 h2 h3 (by simpa using q)⟩
  | .ws _ _, v, hp, _ => by simp [D.plain] at hp
  | .rng _ _ _, v, hp, _ => by simp [D.plain] at hp
theorem RepL.reads : ∀ (ds : List D) {vs : List Value}, D.plainL ds = true → RepL C h own vs ds → ∃ as, ReadsAll h vs (D.pyL ds) as
  | [], vs, _, r => by simp only [RepL] at r; subst r; exact ⟨_, by simp only [D.pyL]; exact .nil⟩
  | d :: ds, vs, hp, r => by
    simp only [RepL] at r
    obtain ⟨v, t, rfl, r1, r2⟩ := r
    simp only [D.plainL, Bool.and_eq_true] at hp
    obtain ⟨as, q1⟩ := Rep.reads d hp.1 r1
    obtain ⟨bs, q2⟩ := RepL.reads ds hp.2 r2
    exact ⟨_, by simp only [D.pyL]; exact .cons q1 q2⟩
end
end
section
variable {C : Cx} {n : Nat}
def D.fit (d : D) : Bool := d.plain && SeqAt.shaped d.py
theorem op_eq {a b : D} {t : Bool} (ha : a.fit = true) (hb : b.fit = true) (ht : PyData.eqv a.py b.py = t) : Op2 C n (compareOp .Eq) a b (.bool t) := by
  intro A own s u v Q E o I ru rv k
  simp only [D.fit, Bool.and_eq_true] at ha hb
  obtain ⟨as, qa⟩ := Rep.reads a ha.1 ru
  obtain ⟨bs, qb⟩ := Rep.reads b hb.1 rv
  exact SeqAt.compareEq_shaped qa qb ha.2 hb.2 (by have := o.units; omega) (k _ _ (.refl _ _) (by rw [ht]; rfl))
theorem op_ne {a b : D} {t : Bool} (ha : a.fit = true) (hb : b.fit = true) (ht : PyData.eqv a.py b.py = t) : Op2 C n (compareOp .NotEq) a b (.bool (!t)) := by
  intro A own s u v Q E o I ru rv k
  simp only [D.fit, Bool.and_eq_true] at ha hb
  obtain ⟨as, qa⟩ := Rep.reads a ha.1 ru
  obtain ⟨bs, qb⟩ := Rep.reads b hb.1 rv
  exact SeqAt.compareNe_shaped qa qb ha.2 hb.2 (by have := o.units; omega) (k _ _ (.refl _ _) (by rw [ht]; rfl))
end

theorem pyL_ints : ∀ l : List Int, D.pyL (l.map .int) = l.map PyData.int
  | [] => by simp [D.pyL]
  | i :: l => by simp [D.pyL, D.py, pyL_ints l]
theorem pyL_bools : ∀ l : List Bool, D.pyL (l.map .bool) = l.map PyData.bool
  | [] => by simp [D.pyL]
  | i :: l => by simp [D.pyL, D.py, pyL_bools l]
theorem plain_ints : ∀ l : List Int, D.plainL (l.map .int) = true
  | [] => by simp [D.plainL]
  | i :: l => by simp [D.plainL, D.plain, plain_ints l]
theorem plain_bools : ∀ l : List Bool, D.plainL (l.map .bool) = true
  | [] => by simp [D.plainL]
  | i :: l => by simp [D.plainL, D.plain, plain_bools l]
theorem lay_ints : ∀ l : List Int, PyData.canLayAll0 (l.map PyData.int) = true ∧ PyData.depthAll (l.map PyData.int) = 0
  | [] => by simp [PyData.canLayAll0, PyData.depthAll]
  | i :: l => by simp [PyData.canLayAll0, PyData.canLay0, PyData.depthAll, PyData.depth, lay_ints l]
theorem lay_bools : ∀ l : List Bool, PyData.canLayAll0 (l.map PyData.bool) = true ∧ PyData.depthAll (l.map PyData.bool) = 0
  | [] => by simp [PyData.canLayAll0, PyData.depthAll]
  | i :: l => by simp [PyData.canLayAll0, PyData.canLay0, PyData.depthAll, PyData.depth, lay_bools l]
theorem eqv_ints : ∀ l m : List Int, PyData.eqvAll (l.map PyData.int) (m.map PyData.int) = decide (l = m)
  | [], [] => by simp [PyData.eqvAll]
  | [], _ :: _ => by simp [PyData.eqvAll]
  | _ :: _, [] => by simp [PyData.eqvAll]
  | i :: l, j :: m => by
    simp only [List.map_cons, PyData.eqvAll, PyData.eqv, eqv_ints l m, List.cons.injEq]
    rw [Bool.decide_and]; rfl
theorem eqv_bools : ∀ l m : List Bool, PyData.eqvAll (l.map PyData.bool) (m.map PyData.bool) = decide (l = m)
  | [], [] => by simp [PyData.eqvAll]
  | [], _ :: _ => by simp [PyData.eqvAll]
  | _ :: _, [] => by simp [PyData.eqvAll]
  | i :: l, j :: m => by
    simp only [List.map_cons, PyData.eqvAll, PyData.eqv, eqv_bools l m, List.cons.injEq]
    rw [Bool.decide_and]
    cases i <;> cases j <;> rfl
theorem fit_il (l : List Int) : (D.il l).fit = true := by
  unfold D.fit SeqAt.shaped
  simp [D.plain, plain_ints, D.py, pyL_ints, PyData.canLay0, PyData.depth, lay_ints]
theorem fit_tl (l : List Int) : (D.tl l).fit = true := by
  unfold D.fit SeqAt.shaped
  simp [D.plain, plain_ints, D.py, pyL_ints, PyData.canLay0, PyData.depth, lay_ints]
theorem fit_bl (l : List Bool) : (D.bl l).fit = true := by
  unfold D.fit SeqAt.shaped
  simp [D.plain, plain_bools, D.py, pyL_bools, PyData.canLay0, PyData.depth, lay_bools]
theorem fit_norm (l : List Int) (b : Int) : (D.tuple [.tl l, .int b]).fit = true := by
  unfold D.fit SeqAt.shaped
  simp [D.plain, D.plainL, plain_ints, D.py, D.pyL, pyL_ints, PyData.canLay0, PyData.canLayAll0, PyData.depth, PyData.depthAll, lay_ints]
theorem eqv_il (l m : List Int) : PyData.eqv (D.il l).py (D.il m).py = decide (l = m) := by simp only [D.py, pyL_ints, PyData.eqv, eqv_ints]
theorem eqv_bl (l m : List Bool) : PyData.eqv (D.bl l).py (D.bl m).py = decide (l = m) := by simp only [D.py, pyL_bools, PyData.eqv, eqv_bools]
theorem eqv_norm (l m : List Int) (b c : Int) : PyData.eqv (D.tuple [.tl l, .int b]).py (D.tuple [.tl m, .int c]).py = decide (l = m ∧ b = c) := by
  simp only [D.py, D.pyL, pyL_ints, PyData.eqv, PyData.eqvAll, eqv_ints, Bool.and_true]
  rw [Bool.decide_and]; rfl

section
variable {C : Cx} {n : Nat} {A : Around} {env : Env} {own : List Addr} {s : Shared} {ρ : Rho} {ini eqf : Addr} {fi fe : FuncData}

theorem Ok.under {k : Nat} {args : Args} {id : String} (o : Ok (n + k) A) (h : (Code.builtin id args).weight ≤ k) (h' : (Code.builtin id args).cUnits ≤ 10 * k) (hh : (A.under (.builtin id args)).handled = A.handled) : Ok n (A.under (.builtin id args)) :=
  ⟨hh.trans o.handled, by show A.depth + (Code.builtin id args).weight + n < _; have := o.depth; omega, by show A.units + (Code.builtin id args).cUnits + _ + _ < _; have := o.units; omega⟩

/-- Whitespace(e) -/
theorem opn_ws (X : NFacts C ini eqf fi fe) {codes : Str} (hsz : codes.cps.size < 2 ^ 18) : OpN C 6 (.ref C.cw) [.str codes] (.ws (wsOf codes).1 (wsOf codes).2) := by
  intro A own s vs Q E o I r k
  simp only [RepL] at r
  obtain ⟨v, _, rfl, rv, rfl⟩ := r
  obtain ⟨h, g, d, t, os⟩ := s
  refine wpAny_call (make_core (makes_of I.K X.makes) (looks_findIn I.K X.init) (fun self => bind_fn I.K self X.initf) (.inl rfl) ?_)
  have nd : h.get? h.objs.size = none := get_size
  have nx : h.get? (h.objs.size + 1) = none := get_ge (Nat.le_succ _)
  have up : ∀ b o, h.get? b = some o → ((h.push emptyDict).push (instObj C.cw h.objs.size)).get? b = some o := fun b o e => Heap.get?_push_of_some _ (Heap.get?_push_of_some _ e)
  have hx : ((h.push emptyDict).push (instObj C.cw h.objs.size)).get? (h.objs.size + 1) = some (instObj C.cw h.objs.size) := by heap_get
  have hd : ((h.push emptyDict).push (instObj C.cw h.objs.size)).get? h.objs.size = some emptyDict := by heap_get
  have x0 : XB no ⟨h, g, d, t, os⟩ ⟨(h.push emptyDict).push (instObj C.cw h.objs.size), g, d, t, os⟩ := .of_heap (s := ⟨h, g, d, t, os⟩) (tk := t) up
  have I2 : Inv C ⟨(h.push emptyDict).push (instObj C.cw h.objs.size), g, d, t, os⟩ ([h.objs.size + 1, h.objs.size] ++ own) := by
    refine ⟨(I.x0 x0).top, fun b m => ?_, fun b m => ?_⟩
    · rcases List.mem_append.mp m with m | m
      · rcases List.mem_cons.mp m with rfl | m
        · exact ⟨_, hx⟩
        · rw [List.mem_singleton.mp m]; exact ⟨_, hd⟩
      · exact (I.x0 x0).live b m
    · rcases List.mem_append.mp m with m | m
      · rcases List.mem_cons.mp m with rfl | m
        · exact I.new nx
        · rw [List.mem_singleton.mp m]; exact I.new nd
      · exact I.off b m
  have fr : ∀ b ∈ [h.objs.size + 1, h.objs.size], h.get? b = none := fun b m => by
    rcases List.mem_cons.mp m with rfl | m
    · exact nx
    · rw [List.mem_singleton.mp m]; exact nd
  have rv2 : Rep C ((h.push emptyDict).push (instObj C.cw h.objs.size)) ([h.objs.size + 1, h.objs.size] ++ own) v (.str codes) := (rv.fresh fr).keeps up
  have o2 : Ok 4 (A.under (.builtin "type.__call__" ⟨.ref C.cw :: [v], []⟩)) := Ok.under (k := 2) o (Nat.le_of_ble_eq_true rfl) (Nat.le_of_ble_eq_true rfl) rfl
  refine ini_spec X hsz o2 I2 (by simp) (by simp) (Nat.succ_ne_self _) hx hd rv2 fun s' es nn nv y hd' hn he rn => ⟨rfl, ?_⟩
  refine k _ _ ?_ ?_
  · have ne : ∀ b o, h.get? b = some o → b ≠ h.objs.size := fun b o e z => by rw [z, nd] at e; cases e
    exact ⟨fun b o _ e => y.keep b o (ne b o e) (up b o e), fun b o e => y.live b o (up b o e), y.os, y.gens, y.bare⟩
  · simp only [Rep, RepL] at rn ⊢
    obtain ⟨ta, _, rfl, hta, htt, _, _, rfl, ⟨ca, cvs, rfl, hca, hct, hcv⟩, _, _, rfl, ⟨bt, rfl⟩, rfl⟩ := rn
    have hx' : s'.heap.get? (h.objs.size + 1) = some (instObj C.cw h.objs.size) := y.keep _ _ (fun z => Nat.succ_ne_self _ z) hx
    exact ⟨_, _, es, nn, _, ta, ca, cvs, bt, rfl, I.notOwn nx, I.notOwn get_size, fun m => hta (List.mem_append_right _ m), fun m => hca (List.mem_append_right _ m), hx', hd', hn, he, rfl, htt, hct, RepL.il.mp hcv⟩

local macro_rules | `(tactic| walk_at "nm") => `(tactic| repeat' (first | assumption | exact Rho.same | exact Rho.bor_same | refine Rho.bor_ne (by decide) ?_ | refine Rho.ne (by decide) ?_))

/-- x.norm -/
theorem pe_norm (X : WFacts C ini eqf fi fe) {y : Str} {p pos : Pos} {cs : List Int} {b : Int} (he : PE C n env ρ (.Name y p) (.ws cs b)) : PE C n env ρ (.Attribute (.Name y p) (K "norm") pos) (.tuple [.tl cs, .int b]) := by
  intro A own lst s Q E o I F k
  refine PyProof.Rows.Attribute_any_ (he A own lst s _ _ o I F fun v s₁ x₁ r => ?_)
  simp only [Rep] at r
  obtain ⟨x, dx, es, nn, nv, ta, ca, cvs, bt, rfl, h1, h2, h3, h4, h5, h6, h7, h8, rfl, h10, h11, h12⟩ := r
  obtain ⟨attr, ha, hn⟩ := X.own ("norm" : Str) (by simp)
  refine get_attr X (I.x0 x₁).K h5 h6 ha hn h7 rfl (k _ _ (x₁.trans (.tok _ _ _)) ?_)
  simp only [Rep, RepL]
  exact ⟨ta, _, rfl, h3, h10, _, _, rfl, ⟨ca, cvs, rfl, h4, h11, RepL.il.mpr h12⟩, _, _, rfl, ⟨bt, rfl⟩, rfl⟩

/-- Whitespace.equal -/
theorem eq_spec (X : NFacts C ini eqf fi fe) {cs ds : List Int} {b c : Int} : OpN C 3 (.ref eqf) [.ws cs b, .ws ds c] (.bool (decide (cs = ds ∧ b = c))) := by
  intro A own s vs Q E o I r k
  simp only [RepL] at r
  obtain ⟨u, _, rfl, ru, v, _, rfl, rv, rfl⟩ := r
  refine wpAny_call (enter (ps := [(K "self", .cl (.ws cs b)), (K "other", .cl (.ws ds c))]) (ch := no) (lst := noL) o I X.heqf.ok (binds_peek I.K (X.binde u v)) (by rw [X.heqf.scope]; rfl) (by rw [X.heqf.scope]; rfl)
    (.cons ru (.cons rv .nil)) (fun _ _ e => by cases e) (fun s₁ env he hL hc W => ?_) (by rw [X.heqf.scope]; rfl))
  simp only [rhoOf] at W
  have o2 : Ok 2 (A.deeper env) := o.deeper
  refine st_return o2 W (pe_cmp (pe_norm X.toWFacts (pe_name (d := .ws cs b) (by walk_at "nm"))) (pe_norm X.toWFacts (pe_name (d := .ws ds c) (by walk_at "nm"))) (op_eq (fit_norm _ _) (fit_norm _ _) (eqv_norm _ _ _ _))) fun v s₂ W r => k v s₂ W.x (r.less W.incl)

/-- a call of a value that the heap keeps -/
theorem pe_callK {x : Str} {p pos : Pos} {e : Expr} {es : List Expr} {f : Value} {ds : List D} {d : D} (g : GN C env x f) (ha : PEL C n env ρ (e :: es) ds) (op : OpN C n f ds d) (hk : keepIn C.K f = true)
    (hd : (x == ("__debug__" : Str)) = false := by decide)
    (he : starEach (e :: es) env = (false, eval e env) :: starEach es env := by rfl) (hp : (backTo pos (starEach es env)).any (·.1) = false := by rfl) :
    PE C n env ρ (.Call (.Name x p) (e :: es) [] pos) d := by
  intro A own lst s Q E o I F k
  refine wpAny_Call_NameR (gn_eval g I F ?_ hd)
  exact callWith_K I.K hk (ha pos A own lst s _ _ o I F fun vs s₁ x₁ r₁ => ⟨(I.x0 x₁).K, op A own s₁ vs _ _ o (I.x0 x₁) r₁ fun r s₂ x₂ r₂ => k r s₂ (x₁.trans x₂) r₂⟩) he hp

/-- x.equal(e) -/
theorem pe_equal (X : NFacts C ini eqf fi fe) {x : Str} {px apos pos : Pos} {e : Expr} {cs ds : List Int} {b c : Int} {pl : Sem Bool} (hk : keepIn C.K (.ref eqf) = true) (hx : ρ x = some (.cl (.ws cs b))) (he : PE C n env ρ e (.ws ds c)) (hn : 3 ≤ n)
    (hd : (x == ("__debug__" : Str)) = false := by decide) (hc : (x == ("__classdict__" : Str)) = false := by decide)
    (hse : starEach [e] env = [(false, eval e env)] := by rfl)
    (hev : eval (.Call (.Attribute (.Name x px) (K "equal") apos) [e] [] pos) env = (do
      let ov ← eval (.Name x px) env
      standAt apos.atName
      let (f, first) ← holding [ov] (getMethod ov (K "equal") pl)
      callWith pos f first (backTo pos (starEach [e] env)) (backToKw pos (keywordEach [] env))) := by rfl) :
    PE C n env ρ (.Call (.Attribute (.Name x px) (K "equal") apos) [e] [] pos) (.bool (decide (cs = ds ∧ b = c))) := by
  intro A own lst s Q E o I F k
  refine methodCall_KW (pl := pl) ?_ hev
  obtain ⟨v, r, z⟩ := F.get x _ hx
  have z0 : Rep C s.heap own v (.ws cs b) := z
  simp only [Sp.Is, Rep] at z
  obtain ⟨x, dx, es, nn, nv, ta, ca, cvs, bt, rfl, h1, h2, h3, h4, h5, h6, h7, h8, rfl, h10, h11, h12⟩ := z
  refine wpAny_Name (r.load F.kind ?_ hc) hd
  refine method_fn I.K (instAt h5 h6) (plainGet_of (X.get "equal")).1 (plainGet_of (X.get "equal")).2 X.eqm (beq_iff_eq.mp X.isf) (by show (lookIn _ (dictOf es nn)).map _ = _; rw [lookIn_dict, h8]; rfl) ?_
  refine callWith_K (h₀ := s.heap) I.K hk (pel_cons he pel_nil hse pos A own lst s _ _ o I F fun vs s₁ x₁ r₁ => ⟨(I.x0 x₁).K, ?_⟩) hse rfl
  simp only [RepL] at r₁
  obtain ⟨u, _, rfl, ru, rfl⟩ := r₁
  exact eq_spec X A own s₁ [.ref x, u] _ _ (o.le hn) (I.x0 x₁) (RepL.cons (z0.keeps x₁.keeps) (RepL.single ru)) fun r s₂ x₂ r₂ => k r s₂ (x₁.trans x₂) r₂
end
end Mine

-- part M19
namespace Mine
open PySem PySem.W PyProof.Rows

section
variable {M : Model} {A : Around} {R : GenEnd} {Y : Protocol} {n : Nat} {s₀ : Shared} {c : Code} {fs : List Frame} {s : Shared} {env : Env}
  {K : Flow → Sem Fin} {H : Value → Sem Fin} {gd : Bool → Bool} {lv : List Value → List Value}

theorem sg_bind {α β : Type} {m : Sem α} {f : α → Sem β} {K : β → Sem Fin} (h : wpAny M (A.over c fs) m (fun a s' => Seg M A R Y n s₀ c ((f a).wrap K H gd lv) fs s') (fun x s' => Seg M A R Y n s₀ c (H x) fs s') s) :
    Seg M A R Y n s₀ c ((m >>= f).wrap K H gd lv) fs s := by
  rw [Sem.bind_eq_wrap', Sem.wrap_wrap]
  exact seg_wrap h
theorem sg_exec {st : Stmt} {rest : List Stmt} (h : wpAny M (A.over c fs) (exec st env) (fun f s' => f = .next ∧ Seg M A R Y n s₀ c ((execs rest env).wrap K H gd lv) fs s') (fun x s' => Seg M A R Y n s₀ c (H x) fs s') s) :
    Seg M A R Y n s₀ c ((execs (st :: rest) env).wrap K H gd lv) fs s :=
  seg_execs_cons (seg_wrap (wpAny_mono h (fun f s' q => by obtain ⟨rfl, q⟩ := q; exact q) fun _ _ q => q))
theorem sg_If {t : Expr} {a b : List Stmt} {pos : Pos} (h : wpAny M (A.over c fs) (isTrue t env (eval t env)) (fun v s' => Seg M A R Y n s₀ c ((execs (if v = true then a else b) env).wrap K H gd lv) fs s') (fun x s' => Seg M A R Y n s₀ c (H x) fs s') s) :
    Seg M A R Y n s₀ c ((exec (.If t a b pos) env).wrap K H gd lv) fs s := by
  rw [exec_If]
  refine sg_bind (wpAny_standAt (sg_bind (wpAny_mono h (fun v s' q => ?_) fun _ _ q => q)))
  cases v <;> exact q

/-- the frame beneath a loop that runs -/
def belowRun (env : Env) (K : Flow → Sem Fin) (H : Value → Sem Fin) (gd : Bool → Bool) (lv : List Value → List Value) (c : Code) (p : Pos) : Frame :=
  .ret (fun r => ((match r with | .ok f => (.pure f : Sem Flow) | .error e => .raise e).onRaise fun (x : Value) => do
        if (← field x 1) == Value.none then unsupported "frame.own-activation:exception-without-traceback"
        setFlight x env.frame).wrap K H gd lv) none (gd false) (lv []) c p []
theorem sg_For {target iter : Expr} {body orelse : List Stmt} {pos : Pos}
    (h : wpAny M (A.over c fs) (eval iter env) (fun x s' => wpAny M (A.over c fs) (pyIter x) (fun it s'' => ∀ p, Seg M A R Y n s₀ (.forLoop target it body orelse env) (M.den (.forLoop target it body orelse env)) (belowRun env K H gd lv c p :: fs) s'')
      (fun x s' => Seg M A R Y n s₀ c (H x) fs s') s') (fun x s' => Seg M A R Y n s₀ c (H x) fs s') s)
    (hs : ∀ x, foldedSetIterable iter env x = pure x := by intro _; rfl) :
    Seg M A R Y n s₀ c ((exec (.For target iter body orelse pos) env).wrap K H gd lv) fs s := by
  rw [exec_For]
  refine sg_bind (wpAny_standAt (sg_bind (wpAny_mono h (fun x s' q => ?_) fun _ _ q => q)))
  refine sg_bind (wpAny_of_eq (hs x) (sg_bind (wpAny_standAt (sg_bind (wpAny_holding (wpAny_mono q (fun it s'' q => ?_) fun _ _ q => q))))))
  exact seg_call q
end

section
variable {prog : Program} {w : World} {A : Around} {R : GenEnd} {Y : Protocol} {n : Nat} {s₀ : Shared} {fs : List Frame} {s : Shared} {env : Env}

def loopH (env : Env) : Value → Sem Fin := fun e => (do noteFrame e env; theTreesLotGoes e : Sem Unit).wrap (fun _ => .raise e) .raise id id
theorem sg_forLoop {target : Expr} {it : Value} {body orelse : List Stmt}
    (h : wpAny (model prog w) (A.over (.forLoop target it body orelse env) fs) (pyNext it) (fun r s' => ∃ v, r = some v ∧ wpAny (model prog w) (A.over (.forLoop target it body orelse env) fs) (assign target env v) (fun _ s'' =>
        Seg (model prog w) A R Y n s₀ (.forLoop target it body orelse env) ((execs body env).wrap (fun f => match f with
            | .next | .cont => .pure (.again (.forLoop target it body orelse env))
            | .brk => .pure (.done .next)
            | .ret v => .pure (.done (.ret v))) (loopH env) id id) fs s'') (fun _ _ => False) s') (fun _ _ => False) s)
    (ht : ∀ v, letOwnedTupleGo target it v = pure () := by intro _; rfl) :
    Seg (model prog w) A R Y n s₀ (.forLoop target it body orelse env) ((model prog w).den (.forLoop target it body orelse env)) fs s := by
  show Seg _ A R Y n s₀ _ ((forTurn target it body orelse env).onRaise (fun x => do noteFrame x env; theTreesLotGoes x)) fs s
  rw [Sem.onRaise_eq_wrap]
  unfold forTurn
  refine sg_bind (wpAny_standAt (sg_bind (wpAny_onRaise (wpAny_mono h (fun r s' q => ?_) fun _ _ q => q.elim))))
  obtain ⟨v, rfl, q⟩ := q
  refine sg_bind (wpAny_of_eq (ht v) (sg_bind (wpAny_mono q (fun _ s'' q => ?_) fun _ _ q => q.elim)))
  show Seg _ A R Y n s₀ _ (Sem.wrap _ _ _ _ (execs body env >>= _)) fs s''
  rw [Sem.bind_eq_wrap', Sem.wrap_wrap]
  rw [Sem.wrap_congr (execs body env) _ _ (K' := fun f => match f with
            | .next | .cont => .pure (.again (.forLoop target it body orelse env))
            | .brk => .pure (.done .next)
            | .ret v => .pure (.done (.ret v))) (H' := loopH env)
        (fun f => by cases f <;> rfl)
        (fun e => by unfold loopH; first | exact Sem.bind_eq_wrap _ _ | (show (do noteFrame e env; theTreesLotGoes e : Sem Unit).bind (fun _ => .raise e) = _; rw [Sem.bind_eq_wrap]))]
  exact q
end
end Mine

-- part M20
namespace Mine
open PySem PySem.W PyProof.Rows

structure GFacts (C : Cx) (gi : Addr) (fg : FuncData) : Prop where
  hgi : FnAt C 7 gi fg
  ngi : C.mg (K "_grouping_intervals") = some (.ref gi)
  cm : ∃ t, C.mg (K "CHAR_MAX") = some (.int 127 t)
  bindg : ∀ u S, peek C.K S (bindArgs fg ⟨[u], []⟩) = some [(K "grouping", u)]

local macro_rules | `(tactic| walk_at "nm") => `(tactic| repeat' (first | assumption | exact Rho.same | exact Rho.bor_same | refine Rho.bor_ne (by decide) ?_ | refine Rho.ne (by decide) ?_))

section
variable {C : Cx} {n : Nat} {A : Around} {env : Env} {own : List Addr} {s : Shared} {ρ : Rho}
theorem pe_gint {x : Str} {p : Pos} {i : Int} {t : Tok} (g : GN C env x (.int i t)) (hd : (x == ("__debug__" : Str)) = false := by decide) : PE C n env ρ (.Name x p) (.int i) := by
  intro A own lst s Q E o I F k
  exact gn_eval g I F (k _ _ (.refl _ _) ⟨t, rfl⟩) hd
theorem mkFrm {h : Heap} {m : Str → Option Value} (hk : env.scope.kind = .function) (hg : env.globals = mainGlobals) (hb : env.builtins = builtinsNs) (hc : env.cells = []) (hn : h.Ns env.locals m) (hr : ∀ x p, ρ x = some p → env.kindOf x = some .local ∧ ∃ v, m x = some v ∧ p.Is C h [env.locals] v) :
    Frm C env h [env.locals] ρ noL where
  kind := hk
  glob := hg
  bui := hb
  loc := ⟨m, hn⟩
  cel := fun n c e => by rw [hc] at e; cases e
  apart := fun n n' c e => by rw [hc] at e; cases e
  ne := fun n c e => by rw [hc] at e; cases e
  lown := by simp
  cown := fun n c e => by rw [hc] at e; cases e
  get := fun x p e => let ⟨a, v, b, c⟩ := hr x p e; ⟨v, .inl ⟨a, m, hn, b⟩, c⟩
  lst := fun a ds e => by cases e
end

/-- what a generator's frame holds: the list walked over, and where -/
structure GSt (C : Cx) (env : Env) (ax : Addr) (vs : List Value) (P : (Str → Option Value) → Prop) (h : Heap) : Prop where
  top : ∀ b o, C.hb.get? b = some o → h.get? b = some o
  ns : ∃ m, h.Ns env.locals m ∧ m (K "grouping") = some (.ref ax) ∧ P m
  lst : h.IsList ax (List.toArray vs)
  off : C.hb.get? env.locals = none

def sqAt (l : List Int) (z i : Nat) : Int := if i < z then l.getD i 0 else l.getD (z - 1) 0
def phase (l : List Int) (z i : Nat) (m : Str → Option Value) : Prop :=
  (i ≤ z ∧ ∃ t, m (K "interval") = some (.int (l.getD (i - 1) 0) t)) ∨ (z < i ∧ ∃ t, m (K "last_interval") = some (.int (l.getD (z - 1) 0) t))
structure Hp (C : Cx) (env : Env) (ax : Addr) (vs : List Value) (l : List Int) (z : Nat) (I : Addr) (i : Nat) (h : Heap) : Prop where
  st : GSt C env ax vs (phase l z i) h
  it : i ≤ z → h.IsListIter I ax i
abbrev gch (env : Env) (I : Addr) : Addr → Prop := fun b => b = env.locals ∨ b = I
def YI (C : Cx) (env : Env) (ax : Addr) (vs : List Value) (l : List Int) (z N : Nat) (I : Addr) : Protocol := fun m s₀ v s₁ kap =>
  (∃ t, v = .int (sqAt l z (N - 1 - m)) t) ∧ XB (gch env I) s₀ s₁ ∧ Hp C env ax vs l z I (N - 1 - m + 1) s₁.heap ∧ (0 < m → ∀ s'', Hp C env ax vs l z I (N - 1 - m + 1) s''.heap → kap (.send .none) s'')
abbrev RI : GenEnd := fun _ _ r _ => r = .ok (.ret .none) ∧ False

theorem GSt.inv {C : Cx} {env : Env} {ax : Addr} {vs : List Value} {P} {s : Shared} (g : GSt C env ax vs P s.heap) : Inv C s [env.locals] :=
  ⟨g.top, fun a m => by rw [List.mem_singleton.mp m]; obtain ⟨m, ⟨o, es, ep, e, _⟩, _⟩ := g.ns; exact ⟨o, e⟩, fun a m => by rw [List.mem_singleton.mp m]; exact g.off⟩

section
variable {C : Cx} {A : Around} {env : Env} {ax I : Addr} {vs : List Value} {l : List Int} {z N : Nat} {fs : List Frame}

theorem Ok.push {k n : Nat} {c c' : Code} {K : Result → Sem Fin} {g : Bool} {lv : List Value} {p : Pos} (o : Ok (n + k) (A.over c fs)) (hw : c'.weight ≤ k) (hu : c'.cUnits ≤ 10 * k) (hh : (A.over c' (.ret K none g lv c p [] :: fs)).handled = (A.over c fs).handled) :
    Ok n (A.over c' (.ret K none g lv c p [] :: fs)) := by
  refine ⟨hh.trans o.handled, ?_, ?_⟩
  · show A.depth + frameCount ((c, p) :: fs.map Frame.where_) + c'.weight + n < _
    rw [frameCount_cons]
    have := o.depth
    have : A.depth + frameCount (fs.map Frame.where_) + c.weight + (n + k) < recursionLimit := this
    omega
  · show A.units + unitsOf ((c, p) :: fs.map Frame.where_) + c'.cUnits + _ + _ < _
    rw [unitsOf_cons]
    have := o.units
    have : A.units + unitsOf (fs.map Frame.where_) + c.cUnits + 10 * (n + k) + 100 < cLine := this
    omega

/-- the while of the tail -/
theorem sg_tail (hk : env.scope.kind = .function) (hco : env.scope.isCoroutine = false) (hg : env.globals = mainGlobals) (hb : env.builtins = builtinsNs) (hc : env.cells = []) (hloc : env.kindOf (K "last_interval") = some .local) (hL : env.locals ≠ I)
    {p1 p2 p3 p4 : Pos} {k4 : Nat} (hfs : splitAtGen fs = none) (hfg : fs.any Frame.guarded = false)
    (o : Ok 2 (A.over (.whileLoop (.Constant (.bool true) k4 p4) [.Expr (.Yield (some (.Name (K "last_interval") p1)) p2) p3] [] env) fs)) : ∀ (m : Nat) (s₀ s : Shared), m < N → z ≤ N - 1 - m →
      XB (gch env I) s₀ s → GSt C env ax vs (fun f => ∃ t, f (K "last_interval") = some (.int (l.getD (z - 1) 0) t)) s.heap →
      Seg C.M A RI (YI C env ax vs l z N I) (m + 1) s₀ (.whileLoop (.Constant (.bool true) k4 p4) [.Expr (.Yield (some (.Name (K "last_interval") p1)) p2) p3] [] env) (C.M.den (.whileLoop (.Constant (.bool true) k4 p4) [.Expr (.Yield (some (.Name (K "last_interval") p1)) p2) p3] [] env)) fs s := by
  have step : ∀ (m : Nat) (s₀ s : Shared), m < N → z ≤ N - 1 - m → XB (gch env I) s₀ s → GSt C env ax vs (fun f => ∃ t, f (K "last_interval") = some (.int (l.getD (z - 1) 0) t)) s.heap →
      (∀ m', m = m' + 1 → ∀ s'', GSt C env ax vs (fun f => ∃ t, f (K "last_interval") = some (.int (l.getD (z - 1) 0) t)) s''.heap → 
        Seg C.M A RI (YI C env ax vs l z N I) m s'' (.whileLoop (.Constant (.bool true) k4 p4) [.Expr (.Yield (some (.Name (K "last_interval") p1)) p2) p3] [] env) (C.M.den (.whileLoop (.Constant (.bool true) k4 p4) [.Expr (.Yield (some (.Name (K "last_interval") p1)) p2) p3] [] env)) fs s'') →
      Seg C.M A RI (YI C env ax vs l z N I) (m + 1) s₀ (.whileLoop (.Constant (.bool true) k4 p4) [.Expr (.Yield (some (.Name (K "last_interval") p1)) p2) p3] [] env) (C.M.den (.whileLoop (.Constant (.bool true) k4 p4) [.Expr (.Yield (some (.Name (K "last_interval") p1)) p2) p3] [] env)) fs s := by
    intro m s₀ s hm hz X G ih
    refine seg_whileLoop ?_
    refine wpAny_bind (wpAny_Constant_bool (wpAny_bind (wpAny_standAt (wpAny_holding (wpAny_truthy_bool ?_)))))
    rw [if_pos rfl]
    obtain ⟨f, hns, hgr, t, hf⟩ := G.ns
    refine seg_execs_cons (seg_Expr_Yield hfs rfl hfg ?_ hco (by unfold interactive; rw [hk]; rfl))
    refine wpAny_Name (wpAny_loadName_local hk hloc hns hf fun kap hkap => ?_) (by decide)
    have hidx : ¬ N - 1 - m < z := by omega
    refine ⟨⟨t, by unfold sqAt; rw [if_neg hidx]⟩, X, ⟨⟨G.top, ⟨f, hns, hgr, .inr ⟨by omega, t, hf⟩⟩, G.lst, G.off⟩, fun h => absurd h (by omega)⟩, fun h0 s'' H => ?_⟩
    refine hkap _ _ ?_
    obtain ⟨m', rfl⟩ : ∃ m', m = m' + 1 := ⟨m - 1, by omega⟩
    refine seg_execs_nil (seg_again rfl (ih m' rfl s'' ?_))
    obtain ⟨g, h1, h2, h3⟩ := H.st.ns
    rcases h3 with h3 | h3
    · exact absurd h3.1 (by omega)
    · exact ⟨H.st.top, ⟨g, h1, h2, h3.2⟩, H.st.lst, H.st.off⟩
  intro m
  induction m with
  | zero =>
    intro s₀ s hm hz X G
    exact step 0 s₀ s hm hz X G fun m' e => by cases e
  | succ m ih =>
    intro s₀ s hm hz X G
    exact step (m + 1) s₀ s hm hz X G fun m' e s'' G' => by
      cases e
      exact ih s'' s'' (by omega) (by omega) (.refl _ _) G'
end
end Mine

-- part M21
namespace Mine
open PySem PySem.W PyProof.Rows

def gFor : Expr × List Stmt := match bodyAt 7 with
  | [_, .For t _ b _ _] => (t, b)
  | _ => (default, [])
local macro_rules | `(tactic| walk_at "nm") => `(tactic| repeat' (first | assumption | exact Rho.same | exact Rho.bor_same | refine Rho.bor_ne (by decide) ?_ | refine Rho.ne (by decide) ?_))

theorem ns_bind {h' : Heap} {a : Addr} {m : Str → Option Value} {x : Str} {v : Value} (n : h'.Ns a (fun y => if y = x then some v else m y)) : ∃ m', h'.Ns a m' ∧ m' x = some v ∧ ∀ y, y ≠ x → m' y = m y := ⟨_, n, by simp, fun y hy => by simp [hy]⟩

section
variable {C : Cx} {A : Around} {env : Env} {ax I : Addr} {vs : List Value} {l : List Int} {z N : Nat} {fs : List Frame} {gi : Addr} {fg : FuncData}

theorem sg_walk (X : GFacts C gi fg) (hsc : env.scope = scopeAt 7) (hg : env.globals = mainGlobals) (hb : env.builtins = builtinsNs) (hc : env.cells = []) (hL : env.locals ≠ I) (hLa : env.locals ≠ ax) (hIa : ax ≠ I)
    (hfs : splitAtGen fs = none) (hfg : fs.any Frame.guarded = false) (hN : ∀ i, i < l.length → ∃ t, vs[i]? = some (.int (l.getD i 0) t))
    (hz1 : 1 ≤ z) (hzl : z < l.length) (hz0 : l.getD z 0 = 0) (hzn : ∀ i, i < z → l.getD i 0 ≠ 0) (hcm : ∀ i, i ≤ z → l.getD i 0 ≠ 127) (hT : C.hb.get? I = none)
    (o : Ok 4 (A.over (.forLoop gFor.1 (.ref I) gFor.2 [] env) fs)) : ∀ (m : Nat) (s₀ s : Shared), m < N → N - 1 - m ≤ z →
      XB (gch env I) s₀ s → GSt C env ax vs (fun f => N - 1 - m = 0 ∨ ∃ t, f (K "last_interval") = some (.int (l.getD (N - 1 - m - 1) 0) t)) s.heap → s.heap.IsListIter I ax (N - 1 - m) →
      Seg C.M A RI (YI C env ax vs l z N I) (m + 1) s₀ (.forLoop gFor.1 (.ref I) gFor.2 [] env) (C.M.den (.forLoop gFor.1 (.ref I) gFor.2 [] env)) fs s := by
  have kd : ∀ {x k}, (scopeAt 7).names.lookup x = some k → env.kindOf x = some k := fun e => by unfold Env.kindOf; rw [hsc]; exact e
  have hk : env.scope.kind = .function := by rw [hsc]; rfl
  have hco : env.scope.isCoroutine = false := by rw [hsc]; rfl
  obtain ⟨tc, hcmx⟩ := X.cm
  have step : ∀ (m : Nat) (s₀ s : Shared), m < N → N - 1 - m ≤ z →
      XB (gch env I) s₀ s → GSt C env ax vs (fun f => N - 1 - m = 0 ∨ ∃ t, f (K "last_interval") = some (.int (l.getD (N - 1 - m - 1) 0) t)) s.heap → s.heap.IsListIter I ax (N - 1 - m) →
      (0 < m → ∀ sb s'', XB (gch env I) sb s'' → GSt C env ax vs (fun f => ∃ t, f (K "last_interval") = some (.int (l.getD (N - 1 - m) 0) t)) s''.heap → s''.heap.IsListIter I ax (N - 1 - m + 1) → N - 1 - m + 1 ≤ z →
        Seg C.M A RI (YI C env ax vs l z N I) m sb (.forLoop gFor.1 (.ref I) gFor.2 [] env) (C.M.den (.forLoop gFor.1 (.ref I) gFor.2 [] env)) fs s'') →
      Seg C.M A RI (YI C env ax vs l z N I) (m + 1) s₀ (.forLoop gFor.1 (.ref I) gFor.2 [] env) (C.M.den (.forLoop gFor.1 (.ref I) gFor.2 [] env)) fs s := by
    intro m s₀ s hm hi XX G hit ih
    generalize hidx : N - 1 - m = i at *
    obtain ⟨f, hns, hgr, hlast⟩ := G.ns
    obtain ⟨t, hv⟩ := hN i (by omega)
    refine sg_forLoop (wpAny_pyNext_list_item (x := .int (l.getD i 0) t) hit G.lst (by simpa using hv) fun h₁ hit₁ sb₁ => ⟨_, rfl, ?_⟩)
    have hns₁ := hns.sameBut sb₁ hL
    refine wpAny_assign_Name (wpAny_storeName_local (kd rfl) hns₁ (fun h₂ hns₂ sb₂ => ?_) (by rw [hk]; rfl))
    have up : ∀ b o, b ≠ I → b ≠ env.locals → s.heap.get? b = some o → h₂.get? b = some o := fun b o n1 n2 e => (sb₂.2 b n2).trans ((sb₁.2 b n1).trans e)
    have hit₂ : h₂.IsListIter I ax (i + 1) := hit₁.at fun o e => (sb₂.2 I (Ne.symm hL)).trans e
    obtain ⟨f₂, hf₂, hfi, hfo⟩ := ns_bind hns₂
    have G₂ : GSt C env ax vs (fun g => (∃ t, g (K "interval") = some (.int (l.getD i 0) t)) ∧ (i = 0 ∨ ∃ t, g (K "last_interval") = some (.int (l.getD (i - 1) 0) t))) h₂ := by
      refine ⟨fun b o e => up b o (fun z => by rw [z, hT] at e; cases e) (fun z => by rw [z, G.off] at e; cases e) (G.top b o e), ⟨f₂, hf₂, by rw [hfo _ (by decide)]; exact hgr, ⟨t, hfi⟩, ?_⟩, G.lst.at fun o e => up ax o hIa (Ne.symm hLa) e, G.off⟩
      rw [hfo _ (by decide)]; exact hlast
    have lI : ∃ o, h₁.get? I = some o := let ⟨o, e, _⟩ := hit₁; ⟨o, e⟩
    have X₂ : XB (gch env I) s₀ { s with heap := h₂, toks := s.toks + 1 } := by
      have y1 : XB (one I) s { s with heap := h₁, toks := s.toks } := .sameBut sb₁ lI
      have y2 : XB (one env.locals) { s with heap := h₁, toks := s.toks } { s with heap := h₂, toks := s.toks + 1 } := ⟨fun b o hb e => (sb₂.2 b hb).trans e, fun b o e => by
        by_cases q : b = env.locals
        · rw [q]; obtain ⟨o, _, _, e, _⟩ := hf₂; exact ⟨o, e⟩
        · exact ⟨o, (sb₂.2 b q).trans e⟩, rfl, fun _ _ e => e, id⟩
      exact (XX.trans (y1.mono fun a z => .inr z)).trans (y2.mono fun a z => .inl z)
    generalize hs₂ : ({ s with heap := h₂, toks := s.toks + 1 } : Shared) = s₂ at X₂
    have hh₂ : s₂.heap = h₂ := by rw [← hs₂]
    rw [← hh₂] at hit₂ G₂
    clear hs₂ hh₂ hns₂ hf₂ up sb₂ hfo hfi lI
    -- facts lift over pure steps
    have gk : ∀ {P} {s s' : Shared}, XB no s s' → GSt C env ax vs P s.heap → GSt C env ax vs P s'.heap := fun x g =>
      ⟨fun b o e => x.keeps b o (g.top b o e), let ⟨m, a, b⟩ := g.ns; ⟨m, a.keeps x.keeps, b⟩, g.lst.at fun o e => x.keeps _ o e, g.off⟩
    have frm1 : ∀ {s : Shared}, GSt C env ax vs (fun g => (∃ t, g (K "interval") = some (.int (l.getD i 0) t)) ∧ (i = 0 ∨ ∃ t, g (K "last_interval") = some (.int (l.getD (i - 1) 0) t))) s.heap → Frm C env s.heap [env.locals] (noR.set (K "interval") (.cl (.int (l.getD i 0)))) noL := fun g => by
      obtain ⟨m, h1, _, ⟨t, h2⟩, _⟩ := g.ns
      refine mkFrm hk hg hb hc h1 fun x p e => ?_
      unfold Rho.set at e
      split at e
      · rename_i hx; subst hx; cases e; exact ⟨kd rfl, _, h2, ⟨t, rfl⟩⟩
      · cases e
    refine seg_execs_cons (sg_If ?_)
    refine (pt_cmp (C := C) (n := 4) (ρ := noR.set (K "interval") (.cl (.int (l.getD i 0)))) (pe_name (d := .int (l.getD i 0)) (by walk_at "nm")) (pe_gint (i := 127) (t := tc) ⟨kd rfl, .inl hcmx⟩) op_eqi) _ [env.locals] noL s₂ _ _ o G₂.inv (frm1 G₂) fun s₃ x₃ => ?_
    have q1 : (l.getD i 0 == 127) = false := by simpa using hcm i hi
    rw [q1, if_neg (by decide)]
    refine seg_execs_nil (seg_execs_cons (sg_If ?_))
    have G₃ := gk x₃ G₂
    have hit₃ : s₃.heap.IsListIter I ax (i + 1) := hit₂.at fun o e => x₃.keeps _ o e
    have X₃ := X₂.trans x₃.nil
    refine (pt_cmp (C := C) (n := 4) (ρ := noR.set (K "interval") (.cl (.int (l.getD i 0)))) (pe_name (d := .int (l.getD i 0)) (by walk_at "nm")) pe_int op_eqi) _ [env.locals] noL s₃ _ _ o G₃.inv (frm1 G₃) fun s₄ x₄ => ?_
    have G₄ := gk x₄ G₃
    have hit₄ : s₄.heap.IsListIter I ax (i + 1) := hit₃.at fun o e => x₄.keeps _ o e
    have X₄ := X₃.trans x₄.nil
    by_cases hiz : i < z
    · have q2 : (l.getD i 0 == 0) = false := by simpa using hzn i hiz
      rw [q2, if_neg (by decide)]
      obtain ⟨g, hng, hgg, ⟨t', hgi⟩, _⟩ := G₄.ns
      refine seg_execs_nil (seg_execs_cons (seg_Expr_Yield hfs rfl hfg ?_ hco (by unfold interactive; rw [hk]; rfl)))
      refine wpAny_Name (wpAny_loadName_local hk (kd rfl) hng hgi fun kap hkap => ?_) (by decide)
      refine ⟨⟨t', by rw [hidx]; unfold sqAt; rw [if_pos hiz]⟩, X₄, ⟨⟨G₄.top, ⟨g, hng, hgg, .inl ⟨by omega, t', by rw [hidx]; exact hgi⟩⟩, G₄.lst, G₄.off⟩, fun _ => by rw [hidx]; exact hit₄⟩, fun h0 s'' H => ?_⟩
      refine hkap _ _ ?_
      rw [hidx] at H
      have hit'' := H.it (by omega)
      obtain ⟨g', h1, h2, h3⟩ := H.st.ns
      rcases h3 with ⟨_, t'', h3⟩ | h3
      · rw [Nat.add_sub_cancel] at h3
        refine sg_exec (wpAny_Assign_Name (wpAny_Name (wpAny_loadName_local hk (kd rfl) h1 h3 ?_) (by decide)) rfl)
        refine wpAny_storeName_local (kd rfl) h1 (fun h₅ hns₅ sb₅ => ⟨rfl, seg_execs_nil (seg_again rfl (ih h0 _ _ ?_ ?_ ?_ (by omega)))⟩) (by rw [hk]; rfl)
        · exact ⟨fun b o hb e => (sb₅.2 b (fun z => hb (.inl z))).trans e, fun b o e => by
            by_cases q : b = env.locals
            · rw [q]; obtain ⟨o, _, _, e, _⟩ := hns₅; exact ⟨o, e⟩
            · exact ⟨o, (sb₅.2 b q).trans e⟩, rfl, fun _ _ e => e, id⟩
        · obtain ⟨f₅, hf₅, hfl, hfo⟩ := ns_bind hns₅
          refine ⟨fun b o e => (sb₅.2 b (fun z => by rw [z, G.off] at e; cases e)).trans (H.st.top b o e), ⟨f₅, hf₅, by rw [hfo _ (by decide)]; exact h2, t'', hfl⟩, H.st.lst.at fun o e => (sb₅.2 ax (Ne.symm hLa)).trans e, G.off⟩
        · exact hit''.at fun o e => (sb₅.2 I (Ne.symm hL)).trans e
      · exact absurd h3.1 (by omega)
    · have hiz : i = z := by omega
      subst hiz
      have q2 : (l.getD i 0 == 0) = true := by simpa using hz0
      rw [q2, if_pos rfl]
      have G₅ : GSt C env ax vs (fun g => ∃ t, g (K "last_interval") = some (.int (l.getD (i - 1) 0) t)) s₄.heap :=
        ⟨G₄.top, let ⟨m, a, b, _, c⟩ := G₄.ns; ⟨m, a, b, c.resolve_left (by omega)⟩, G₄.lst, G₄.off⟩
      have frm2 : Frm C env s₄.heap [env.locals] (noR.set (K "last_interval") (.cl (.int (l.getD (i - 1) 0)))) noL := by
        obtain ⟨m, h1, _, t, h2⟩ := G₅.ns
        refine mkFrm hk hg hb hc h1 fun x p e => ?_
        unfold Rho.set at e
        split at e
        · rename_i hx; subst hx; cases e; exact ⟨kd rfl, _, h2, ⟨t, rfl⟩⟩
        · cases e
      refine seg_execs_cons (sg_If ?_)
      refine (pt_cmp (C := C) (n := 4) (ρ := noR.set (K "last_interval") (.cl (.int (l.getD (i - 1) 0)))) (pe_name (d := .int (l.getD (i - 1) 0)) (by walk_at "nm")) pe_none (op_isnone false rfl)) _ [env.locals] noL s₄ _ _ o G₅.inv frm2 fun s₅ x₅ => ?_
      rw [if_neg (by decide)]
      refine seg_execs_nil (seg_execs_cons (seg_While fun p => ?_))
      exact sg_tail hk hco hg hb hc (kd rfl) hL (by simp [splitAtGen, hfs]) (by simp [Frame.guarded, hfg]) (o.push (n := 2) (k := 2) (Nat.le_of_ble_eq_true rfl) (Nat.le_of_ble_eq_true rfl) rfl) m s₀ s₅ hm (by omega) (X₄.trans x₅.nil) (gk x₅ G₅)
  intro m
  induction m with
  | zero =>
    intro s₀ s hm hi XX G hit
    exact step 0 s₀ s hm hi XX G hit fun h => absurd h (by omega)
  | succ m ih =>
    intro s₀ s hm hi XX G hit
    refine step (m + 1) s₀ s hm hi XX G hit fun _ sb s'' x' G' hit' hle => ?_
    have e : N - 1 - m = N - 1 - (m + 1) + 1 := by omega
    refine ih sb s'' (by omega) (by omega) x' ⟨G'.top, let ⟨f, a, b, c⟩ := G'.ns; ⟨f, a, b, .inr ?_⟩, G'.lst, G'.off⟩ (by rw [e]; exact hit')
    rw [e, Nat.add_sub_cancel]; exact c
end
end Mine

-- part M22
namespace Mine
open PySem PySem.W PyProof.Rows

/-- a step that turns one generator, too -/
structure XG (ch : Addr → Prop) (g : Nat) (s s' : Shared) : Prop where
  keep : ∀ b o, ¬ ch b → s.heap.get? b = some o → s'.heap.get? b = some o
  live : ∀ b o, s.heap.get? b = some o → ∃ o', s'.heap.get? b = some o'
  os : s'.os = s.os
  gens : ∀ (i : Nat) x, i ≠ g → s.gens[i]? = some x → s'.gens[i]? = some x
  bare : AllBare s.gens → AllBare s'.gens

theorem setGen_ne {s : Shared} {g i : Nat} {x : GenState} (h : i ≠ g) : (s.setGen g x).gens[i]? = s.gens[i]? := by
  simp [Shared.setGen, Ne.symm h]

theorem bare_setGen {s : Shared} {g : Nat} {x : GenState} (h : AllBare s.gens) (hx : x.bare = true) : AllBare (s.setGen g x).gens := by
  intro y hy
  obtain ⟨i, e⟩ := Array.mem_iff_getElem?.mp hy
  by_cases q : i = g
  · subst q
    have hlt : i < (s.setGen i x).gens.size := (Array.getElem?_eq_some_iff.mp e).1
    have hlt' : i < s.gens.size := by simpa [Shared.setGen] using hlt
    have : (s.setGen i x).gens[i]? = some x := setGen_self (Array.getElem?_eq_getElem hlt')
    rw [this] at e; cases e; exact hx
  · rw [setGen_ne q] at e
    exact h y (Array.mem_of_getElem? e)

section
variable {C : Cx} {A : Around} {env genv : Env} {ax I ga : Addr} {g : Nat} {vs : List Value} {l : List Int} {z N : Nat} {E : Value → Shared → Prop} {Q : Option Value → Shared → Prop} {s : Shared}

theorem gen_next {i : Nat} {gs : GenState} (hh : A.handled = none) (hroom : A.depth < recursionLimit) (hl : s.heap.NoLimit) (hg : s.heap.IsGen ga g) (hgs : s.gens[g]? = some gs)
    (hgo : gs.Goes C.M A.in1 RI (YI C genv ax vs l z N I) (N - i) (.send .none) (s.setGen g .running)) (hi : i < N)
    (k : ∀ t s' gs', XG (gch genv I) g s s' → s'.gens[g]? = some gs' → gs'.bare = true → Hp C genv ax vs l z I (i + 1) s'.heap →
      (i + 1 < N → ∀ s'', Hp C genv ax vs l z I (i + 1) s''.heap → gs'.Goes C.M A.in1 RI (YI C genv ax vs l z N I) (N - (i + 1)) (.send .none) s'') → Q (some (.int (sqAt l z i) t)) s') :
    wpAny C.M A (pyNext (.ref ga)) Q E s := by
  obtain ⟨n, hn⟩ : ∃ n, N - i = n + 1 := ⟨N - i - 1, by omega⟩
  rw [hn] at hgo
  unfold pyNext
  refine wpAny_bind (wpAny_attempt (wpAny_callSpecial?_slot (name := Str.ofString "__next__") hg.typeIs slot_gen_next
    (wpAny_call_entry slot_gen_next hg.typeIs entry_gen_next ?_ (args_gen_next _))))
  show wpAny _ A.in1 (Builtin.Generator.genWake (.ref ga) (.send .none)) _ _ s
  unfold Builtin.Generator.genWake
  refine wpAny_bind (wpAny_holding (wpAny_genNumber hg (wpAny_bind (wpAny_genState hgs ?_))))
  cases gs with
  | running => exact hgo.elim
  | finished => exact hgo.elim
  | _ =>
    refine wpAny_bind (wpAny_roomToWake hl hroom ?_)
    show wpAny _ A.in1 (.resume g (.send .none) [] _) _ _ s
    refine wpAny_resumeQ hgs hgo (fun x s₁ hx => hx.2.elim) (fun v s₁ gs' hb hv => ?_)
    refine wpAny_pure ⟨v, rfl, wpAny_pure ?_⟩
    obtain ⟨⟨t, rfl⟩, X, H, hk⟩ := hv
    have e1 : N - 1 - n = i := by omega
    have e2 : N - 1 - (n + 1 - 1) = i := by omega
    rw [e2] at H hk ⊢
    have self : (s₁.setGen g gs').gens[g]? = some gs' := setGen_self (gs := .running) (X.gens g _ (setGen_self hgs))
    refine k t _ gs' ⟨fun b o hb e => X.keep b o hb e, fun b o e => X.live b o e, X.os, fun j x hj e => ?_, fun h => bare_setGen (X.bare (bare_setGen h rfl)) hb⟩ self hb H fun hN s'' H' => ?_
    · rw [setGen_ne hj]; exact X.gens j x (by rw [setGen_ne hj]; exact e)
    · have := hk (by omega) s'' H'
      have e3 : N - (i + 1) = n := by omega
      rw [e3]; exact this
end
end Mine

-- part M23
namespace Mine
open PySem PySem.W PyProof.Rows

/-- what is asked of the list that the generator walks over -/
structure SqOk (l : List Int) (z : Nat) : Prop where
  z1 : 1 ≤ z
  zl : z < l.length
  z0 : l.getD z 0 = 0
  zn : ∀ i, i < z → l.getD i 0 ≠ 0
  cm : ∀ i, i ≤ z → l.getD i 0 ≠ 127

theorem intsAre_get : ∀ {vs : List Value} {l : List Int}, IntsAre vs l → ∀ i, i < l.length → ∃ t, vs[i]? = some (.int (l.getD i 0) t)
  | _, _, .nil, i, h => by simp at h
  | _, _, .cons j t r, i, h => by
    cases i with
    | zero => exact ⟨t, rfl⟩
    | succ i => simpa using intsAre_get r i (by simpa using h)

section
variable {C : Cx} {A : Around} {env genv : Env} {ax I ga : Addr} {g : Nat} {vs : List Value} {l : List Int} {z N : Nat} {s : Shared} {gi : Addr} {fg : FuncData}

structure GE (genv : Env) (fg : FuncData) : Prop where
  sc : genv.scope = scopeAt 7
  g : genv.globals = mainGlobals
  b : genv.builtins = builtinsNs
  c : genv.cells = []

theorem gen_fresh (X : GFacts C gi fg) (V : GE genv fg) (hl : SqOk l z) (hi : IntsAre vs l) (o : Ok 8 A) (hN : 0 < N) (G : GSt C genv ax vs (fun _ => True) s.heap) (hLa : genv.locals ≠ ax) :
    (GenState.fresh (.func (bodyAt 7) genv)).Goes C.M A.in1 RI (YI C genv ax vs l z N s.heap.objs.size) N (.send .none) (s.setGen g .running) := by
  refine ⟨rfl, ?_⟩
  obtain ⟨n, rfl⟩ : ∃ n, N = n + 1 := ⟨N - 1, by omega⟩
  have kd : ∀ {x k}, (scopeAt 7).names.lookup x = some k → genv.kindOf x = some k := fun e => by unfold Env.kindOf; rw [V.sc]; exact e
  have hk : genv.scope.kind = .function := by rw [V.sc]; rfl
  have o1 : Ok 7 A.in1 := o.in1
  have o2 : Ok 6 (A.in1.over (.func (bodyAt 7) genv) []) := by
    refine ⟨o1.handled, ?_, ?_⟩
    · have := o1.depth
      show A.in1.depth + 0 + 1 + 6 < _
      omega
    · have := o1.units
      show A.in1.units + 0 + (Code.func (bodyAt 7) genv).cUnits + 10 * 6 + 100 < _
      have : (Code.func (bodyAt 7) genv).cUnits ≤ 10 := Nat.le_of_ble_eq_true rfl
      omega
  refine seg_func ?_
  have hI : C.hb.get? s.heap.objs.size = none := by
    cases e : C.hb.get? s.heap.objs.size with
    | none => rfl
    | some o => have := G.top _ _ e; rw [get_size] at this; cases this
  obtain ⟨m, hns, hgr, _⟩ := G.ns
  have hL : genv.locals ≠ s.heap.objs.size := by
    obtain ⟨o, _, _, e, _⟩ := hns; exact Nat.ne_of_lt (Heap.lt_size e)
  refine sg_exec (wpAny_Assign_Name (wpAny_Constant_none (wpAny_storeName_local (kd rfl) hns (fun h₁ hns₁ sb₁ => ⟨rfl, ?_⟩) (by rw [hk]; rfl))) rfl)
  have la := G.lst
  have la₁ : h₁.IsList ax vs.toArray := la.at fun o e => (sb₁.2 ax (Ne.symm hLa)).trans e
  have hsz : h₁.objs.size = s.heap.objs.size := sb₁.1
  refine seg_execs_cons (sg_For (wpAny_Name (wpAny_loadName_local (v := .ref ax) hk (kd rfl) hns₁ (by rw [if_neg (by decide)]; exact hgr) (wpAny_pyIter_list la₁ fun p => ?_)) (by decide)))
  have hszp : h₁.objs.size = s.heap.objs.size := hsz
  have lt : ∀ b o, h₁.get? b = some o → (h₁.push { cls := .type "list_iterator", data := .fields #[.ref ax, .int 0 0] }).get? b = some o := fun b o e => Heap.get?_push_of_some _ e
  have hit : (h₁.push { cls := .type "list_iterator", data := .fields #[.ref ax, .int 0 0] }).IsListIter h₁.objs.size ax 0 := ⟨_, Heap.get?_push_size _ rfl, rfl, rfl⟩
  rw [hszp] at hit
  have key := sg_walk (C := C) (A := A.in1) (I := s.heap.objs.size) (N := n + 1) (fs := [belowRun genv (fun f => match f with | .next => (execs [] genv).wrap (fun f => .pure (.done (.ret (match f with | .ret v => v | _ => .none)))) (fun e => (leaving genv e).wrap (fun _ => .raise e) .raise id id) id id | f => .pure (.done (.ret (match f with | .ret v => v | _ => .none)))) (fun e => (leaving genv e).wrap (fun _ => .raise e) .raise id id) id id (.func (bodyAt 7) genv) p]) X V.sc V.g V.b V.c hL hLa
    (by obtain ⟨o, e, _⟩ := la; exact Nat.ne_of_lt (Heap.lt_size e)) rfl rfl (intsAre_get hi) hl.z1 hl.zl hl.z0 hl.zn hl.cm hI
    (o2.push (n := 4) (k := 2) (Nat.le_of_ble_eq_true rfl) (Nat.le_of_ble_eq_true rfl) rfl) n (s.setGen g .running) { s.setGen g .running with heap := h₁.push { cls := .type "list_iterator", data := .fields #[.ref ax, .int 0 0] }, toks := s.toks + 1 } (by omega) (by omega) ?_ ?_ ?_
  · show Seg C.M A.in1 RI _ _ _ (.forLoop _ (.ref h₁.objs.size) _ _ _) _ _ _
    rw [hszp]
    exact key
  · exact ⟨fun b o hb e => lt b o ((sb₁.2 b (fun z => hb (.inl z))).trans e), fun b o e => by
      by_cases q : b = genv.locals
      · rw [q]; obtain ⟨o, _, _, e, _⟩ := hns₁; exact ⟨o, lt _ _ e⟩
      · exact ⟨o, lt _ _ ((sb₁.2 b q).trans e)⟩, rfl, fun _ _ e => e, id⟩
  · obtain ⟨f, hf, hfi, hfo⟩ := ns_bind hns₁
    exact ⟨fun b o e => lt _ _ ((sb₁.2 b (fun z => by rw [z, G.off] at e; cases e)).trans (G.top b o e)), ⟨f, hf.keeps lt, by rw [hfo _ (by decide)]; exact hgr, .inl (by omega)⟩, la₁.at fun o e => lt _ _ e, G.off⟩
  · have e0 : n + 1 - 1 - n = 0 := by omega
    rw [e0]; exact hit
end
end Mine

-- part M24
namespace Mine
open PySem PySem.W PyProof.Rows

section
variable {C : Cx} {env : Env} {B : Org} {own : List Addr} {s s' : Shared} {ρ : Rho} {lst : Lst}
theorem Fw.stepG {ch : Addr → Prop} {g : Nat} {fr : List Addr} (W : Fw C env B s own ρ lst) (hl : ∀ a ∈ fr, s.heap.get? a = none) (hl' : ∀ a ∈ fr, ∃ o, s'.heap.get? a = some o) (ha : ∀ a, ch a → a ∈ fr ++ own ∧ B.s.heap.get? a = none)
    (ns : ∀ a, ch a → ¬ slots env lst a) (nR : ∀ x b, ρ x = some (.at b) → ¬ ch b) (x : XG ch g s s') (hg : B.s.gens[g]? = none) : Fw C env B s' (fr ++ own) ρ lst where
  I := ⟨fun b o e => x.keep b o (fun z => by
      rcases List.mem_append.mp (ha b z).1 with m | m
      · have := W.I.top b o e; rw [hl b m] at this; cases this
      · have := W.I.off b m; rw [e] at this; cases this) (W.I.top b o e), fun a m => by
      rcases List.mem_append.mp m with m | m
      · exact hl' a m
      · obtain ⟨o, e⟩ := W.I.live a m; exact x.live a o e, fun a m => by
      rcases List.mem_append.mp m with m | m
      · exact W.I.new (hl a m)
      · exact W.I.off a m⟩
  F := (W.F.more hl).offC (fun a z => (ha a z).1) (fun z => ns _ z (.inl rfl)) (fun n c e z => ns _ z (.inr (.inl ⟨n, e⟩))) nR (fun b ds e z => ns _ z (.inr (.inr ⟨ds, e⟩))) (fun b o hb e => x.keep b o hb e) (fun _ m => m) fun _ m _ => m
  x := ⟨fun b o hb e => x.keep b o (fun z => by rw [(ha b z).2] at e; cases e) (W.x.keep b o hb e), fun b o e => let ⟨o', e'⟩ := W.x.live b o e; x.live b o' e', x.os.trans W.x.os,
    fun i v e => x.gens i v (fun z => by rw [z, hg] at e; cases e) (W.x.gens i v e), fun h => x.bare (W.x.bare h)⟩
  new := W.new
  grow := fun a m => by
    rcases List.mem_append.mp m with m | m
    · exact .inr (W.x.dead (hl a m))
    · exact W.grow a m
  incl := fun a m => List.mem_append_right _ (W.incl a m)

structure GenSt (C : Cx) (A : Around) (genv : Env) (ga ax : Addr) (g : Nat) (vs : List Value) (l : List Int) (z N : Nat) (S0 : Addr → Prop) (own : List Addr) (i : Nat) (s : Shared) : Prop where
  isg : s.heap.IsGen ga g
  gown : ga ∈ own
  lown : genv.locals ∈ own
  axn : ax ∉ own
  lst : s.heap.IsList ax (List.toArray vs)
  nL : ¬ S0 genv.locals
  nG : ¬ S0 ga
  neL : ga ≠ genv.locals
  st0 : i = 0 → s.gens[g]? = some (.fresh (.func (bodyAt 7) genv)) ∧ GSt C genv ax vs (fun _ => True) s.heap
  st1 : 0 < i → ∃ I gs, I ∈ own ∧ ¬ S0 I ∧ ga ≠ I ∧ s.gens[g]? = some gs ∧ Hp C genv ax vs l z I i s.heap ∧ (i < N → ∀ s'', Hp C genv ax vs l z I i s''.heap → gs.Goes C.M A.in1 RI (YI C genv ax vs l z N I) (N - i) (.send .none) s'')

theorem GenSt.frame {A : Around} {genv : Env} {ga ax : Addr} {g : Nat} {vs : List Value} {l : List Int} {z N : Nat} {S0 ch : Addr → Prop} {own own' : List Addr} {i : Nat} (G : GenSt C A genv ga ax g vs l z N S0 own i s) (x : XB ch s s') (hS : ∀ a, ch a → S0 a) (hax : ¬ ch ax)
    (top : ∀ b o, C.hb.get? b = some o → s'.heap.get? b = some o) (q : ∀ a ∈ own, a ∈ own') (hax' : ax ∉ own') : GenSt C A genv ga ax g vs l z N S0 own' i s' := by
  have la := G.lst.at fun o e => x.keep ax o hax e
  refine ⟨?_, q _ G.gown, q _ G.lown, hax', la, G.nL, G.nG, G.neL, fun h => ?_, fun h => ?_⟩
  · obtain ⟨o, nm, qn, e, r⟩ := G.isg
    exact ⟨o, nm, qn, x.keep _ _ (fun z => G.nG (hS _ z)) e, r⟩
  · obtain ⟨a, b⟩ := G.st0 h
    obtain ⟨m, n, r⟩ := b.ns
    exact ⟨x.gens _ _ a, top, ⟨m, n.at' fun o e => x.keep _ _ (fun z => G.nL (hS _ z)) e, r⟩, la, b.off⟩
  · obtain ⟨I, gs, hI, nI, hne, hgs, hp, hk⟩ := G.st1 h
    obtain ⟨m, n, r⟩ := hp.st.ns
    exact ⟨I, gs, q _ hI, nI, hne, x.gens _ _ hgs, ⟨⟨top, ⟨m, n.at' fun o e => x.keep _ _ (fun z => G.nL (hS _ z)) e, r⟩, la, hp.st.off⟩, fun hz => (hp.it hz).at fun o e => x.keep _ _ (fun z => nI (hS _ z)) e⟩, hk⟩

variable {n : Nat} {A : Around} {Q : Flow → Shared → Prop} {E : Value → Shared → Prop} {rest : List Stmt} {gi : Addr} {fg : FuncData}

/-- for x in _grouping_intervals(e) -/
theorem st_forG {x fname : Str} {px fp cp pos : Pos} {e : Expr} {body : List Stmt} {l : List Int} {z N : Nat} {LL : List Addr} (J : Nat → Rho → Lst → Prop) (Jx : Rho → Lst → Prop) (X : GFacts C gi fg) (o : Ok 10 A) (W : Fw C env B s own ρ lst)
    (gn : GN C env fname (.ref gi)) (he : PE C 10 env ρ e (.il l)) (hl : SqOk l z) (hN : 0 < N) (hx : Stores env x) (h0 : J 0 ρ lst) (hLL : ∀ a ∈ LL, a ∈ own)
    (hJ : ∀ i ρ lst, J i ρ lst → (∀ b ds, lst b = some ds → b ∈ LL) ∧ ∀ y b, ρ y = some (.at b) → b ∈ LL)
    (turn : ∀ (B' : Org) (i : Nat) s' own' ρ' lst', i < N → J i ρ' lst' → Fw C env B' s' own' (ρ'.set x (.cl (.int (sqAt l z i)))) lst' → wpAny C.M A (execs body env) (fun f s'' => match f with
      | .next | .cont => i + 1 < N ∧ ∃ own'' ρ'' lst'', Fw C env B' s'' own'' ρ'' lst'' ∧ J (i + 1) ρ'' lst''
      | .brk => ∃ own'' ρ'' lst'', Fw C env B' s'' own'' ρ'' lst'' ∧ Jx ρ'' lst''
      | .ret v => False) (fun _ _ => False) s')
    (k : ∀ s' own' ρ' lst', Jx ρ' lst' → Fw C env B s' own' ρ' lst' → wpAny C.M A (execs rest env) Q E s')
    (hd : (fname == ("__debug__" : Str)) = false := by decide) (hse : starEach [e] env = [(false, eval e env)] := by rfl)
    (hs : ∀ x, foldedSetIterable (.Call (.Name fname fp) [e] [] cp) env x = pure x := by intro _; rfl) :
    wpAny C.M A (execs (.For (.Name x px) (.Call (.Name fname fp) [e] [] cp) body [] pos :: rest) env) Q E s := by
  refine wpAny_execs_cons (wpAny_For ?_ hs)
  refine wpAny_Call_NameR (gn_eval gn W.I W.F ?_ hd)
  obtain ⟨oc, od, osl, hat⟩ := X.hgi.ok.at
  refine Calls.callWith_function (o := ⟨oc, od, .func fg, osl⟩) (fd := fg) ?_
  rw [hse]
  refine Calls.evalArgs_plain (Calls.spliced_cons (he.use o W fun v s₁ x₁ r₁ => Calls.spliced_nil ⟨⟨(W.x0 x₁).I.K _ _ hat, rfl⟩, ?_⟩))
  have W₁ := W.x0 x₁
  simp only [Rep] at r₁
  obtain ⟨ax, vs, rfl, hax, la, rv⟩ := r₁
  have rv := RepL.il.mp rv
  refine wpAny_call (codeAny_call_generator o.room (W₁.I.K _ _ hat) rfl X.hgi.ok.co (by rw [X.hgi.scope]; rfl) X.hgi.ok.body (codeRec_of W₁.I.K X.hgi.ok.code) (binds_peek W₁.I.K (X.bindg _) _ _ _ _ ?_))
  have hcell : ∀ y ∈ fg.scope.names, y.2 ≠ NameKind.cell := by
    rw [X.hgi.scope]
    have : ((scopeAt 7).names.all fun y => !(y.2 == NameKind.cell)) = true := by rfl
    intro y hy
    have := List.all_eq_true.mp this y hy
    simpa using this
  have hloc : ∀ y ∈ ([(K "grouping", Value.ref ax)] : List (Str × Value)), fg.scope.names.lookup y.1 = some .local := by
    intro y hy
    rw [List.mem_singleton.mp hy, X.hgi.scope]; rfl
  refine wpAny_newFunctionEnv hcell hloc (fun h₂ hns₂ sb₂ => ⟨W₁.I.lim.fresh _ sb₂, ?_⟩) X.hgi.ok.kind
  dsimp only
  generalize hV : newEnv fg.scope s₁.heap.objs.size fg.globals fg.closure (fg.qualname ++ ".<locals>.") (some gi) fg.code none fg.builtins = genv
  have V : GE genv fg := by
    subst hV
    exact ⟨X.hgi.scope, X.hgi.ok.glob, X.hgi.ok.bui, X.hgi.ok.clos⟩
  have hVL : genv.locals = s₁.heap.objs.size := by rw [← hV]; rfl
  have nL₁ : s₁.heap.get? genv.locals = none := by rw [hVL]; exact get_size
  have up₂ : ∀ b o, s₁.heap.get? b = some o → h₂.get? b = some o := fun b o e => sb₂.extBut b o (Nat.ne_of_lt (Heap.lt_size e)) (Heap.get?_push_of_some _ e)
  have ga₁ : s₁.heap.get? h₂.objs.size = none := by
    cases e : s₁.heap.get? h₂.objs.size with
    | none => rfl
    | some o => have := up₂ _ _ e; rw [get_size] at this; cases this
  rw [← hVL] at hns₂
  have hgL : h₂.objs.size ≠ genv.locals := fun z => by obtain ⟨o, _, _, e, _⟩ := hns₂; rw [← z, get_size] at e; cases e
  have key : ∀ s₃ : Shared, (∃ nm qn, s₃.heap = h₂.push { cls := .type "generator", data := .fields #[.int s₁.gens.size 0, nm, qn] }) → s₃.gens = s₁.gens.push (.fresh (.func (bodyAt 7) genv)) → s₃.os = s₁.os →
      wpAny C.M A (pyIter (Value.ref h₂.objs.size)) (fun it s₂ => codeAny C.M A (Code.forLoop (Expr.Name x px) it body [] env) (fun r s' => match r with
          | Except.ok f => (match f with | Flow.next => wpAny C.M A (execs rest env) Q E s' | f => Q f s')
          | Except.error e => cameBackBy C.M A env E e s') s₂) E s₃ := by
    rintro s₃ ⟨nm, qn, hh⟩ hgn hos
    generalize hga : h₂.objs.size = ga at ga₁ hgL ⊢
    generalize hgg : s₁.gens.size = g at hh
    have isg : s₃.heap.IsGen ga g := by
      rw [hh, ← hga]; exact ⟨_, nm, qn, Heap.get?_push_size _ rfl, rfl, rfl, rfl⟩
    have up₃ : ∀ b o, h₂.get? b = some o → s₃.heap.get? b = some o := fun b o e => by rw [hh]; exact Heap.get?_push_of_some _ e
    have gfr : s₃.gens[g]? = some (.fresh (.func (bodyAt 7) genv)) := by rw [hgn, ← hgg]; exact Array.getElem?_push_size ..
    have x₃ : XB no s₁ s₃ := ⟨fun b o _ e => up₃ b o (up₂ b o e), fun b o e => ⟨o, up₃ b o (up₂ b o e)⟩, hos, fun i v e => by
      rw [hgn, Array.getElem?_push, if_neg (fun z => ?_)]
      · exact e
      · rw [z] at e; simp at e, fun h => by rw [hgn]; exact h.push rfl⟩
    have hgB : B.s.gens[g]? = none := by
      cases e : B.s.gens[g]? with
      | none => rfl
      | some v => have := W₁.x.gens _ _ e; rw [← hgg] at this; simp at this
    have lL : ∃ o, s₃.heap.get? genv.locals = some o := let ⟨o, _, _, e, _⟩ := hns₂; ⟨o, up₃ _ _ e⟩
    have lG : ∃ o, s₃.heap.get? ga = some o := let ⟨o, _, _, e, _⟩ := isg; ⟨o, e⟩
    have fr2 : ∀ a ∈ [ga, genv.locals], s₁.heap.get? a = none := fun a m => by
      rcases List.mem_cons.mp m with rfl | m
      · exact ga₁
      · rw [List.mem_singleton.mp m]; exact nL₁
    have W₃ : Fw C env B s₃ ([ga, genv.locals] ++ own) ρ lst := W₁.stepG (ch := no) (g := g) fr2 (fun a m => by
      rcases List.mem_cons.mp m with rfl | m
      · exact lG
      · rw [List.mem_singleton.mp m]; exact lL) (fun _ h => h.elim) (fun _ h => h.elim) (fun _ _ _ h => h) ⟨x₃.keep, x₃.live, x₃.os, fun i v _ e => x₃.gens i v e, x₃.bare⟩ hgB
    let S0 : Addr → Prop := fun a => (a = env.locals ∨ (∃ n, env.cells.lookup n = some a) ∨ a ∈ LL) ∨ ∃ o, B.s.heap.get? a = some o
    have S0dead : ∀ a, s₁.heap.get? a = none → ¬ S0 a := fun a n h => by
      rcases h with (rfl | ⟨m, e⟩ | m) | ⟨o, e⟩
      · exact W₁.I.notOwn n W.F.lown
      · exact W₁.I.notOwn n (W.F.cown m a e)
      · exact W₁.I.notOwn n (hLL a m)
      · have := W₁.x.dead n; rw [e] at this; cases this
    have S0B : ∀ a, ¬ S0 a → B.s.heap.get? a = none := fun a h => by
      cases e : B.s.heap.get? a with
      | none => rfl
      | some o => exact absurd (.inr ⟨o, e⟩) h
    have S0slot : ∀ i ρ lst, J i ρ lst → ∀ a, slots env lst a → S0 a := fun i ρ lst j a h => by
      rcases h with h | h | ⟨ds, e⟩
      · exact .inl (.inl h)
      · exact .inl (.inr (.inl h))
      · exact .inl (.inr (.inr ((hJ i ρ lst j).1 a ds e)))
    have la₃ : s₃.heap.IsList ax vs.toArray := la.at fun o e => up₃ _ _ (up₂ _ _ e)
    have axo : ax ∉ [ga, genv.locals] ++ own := fun m => by
      rcases List.mem_append.mp m with m | m
      · obtain ⟨o, e, _⟩ := la; rw [fr2 _ m] at e; cases e
      · exact hax m
    have G₃ : GenSt C A genv ga ax g vs l z N S0 ([ga, genv.locals] ++ own) 0 s₃ := by
      refine ⟨isg, by simp, by simp, axo, la₃, S0dead _ nL₁, S0dead _ ga₁, hgL, fun _ => ⟨gfr, W₃.I.top, ⟨_, hns₂.keeps up₃, by simp, trivial⟩, la₃, W₁.I.new nL₁⟩, fun h => absurd h (by decide)⟩
    refine wpAny_pyIter_gen isg ?_
    refine codeAny_forLoop (fun j s' => ∃ i own' ρ' lst', i < N ∧ j = N - i ∧ Fw C env B s' own' ρ' lst' ∧ J i ρ' lst' ∧ GenSt C A genv ga ax g vs l z N S0 own' i s' ∧ ∀ a ∈ LL, a ∈ own') (fun j s' hJ' => ?_) N ⟨0, _, ρ, lst, hN, rfl, W₃, h0, G₃, fun a m => List.mem_append_right _ (hLL a m)⟩
    obtain ⟨i, own', ρ', lst', hi, rfl, W', j', G', hL'⟩ := hJ'
    have hLa : genv.locals ≠ ax := fun z => G'.axn (z ▸ G'.lown)
    have pick : ∃ I gs fr, (∀ a ∈ fr, s'.heap.get? a = none) ∧ I ∈ fr ++ own' ∧ (∀ a ∈ fr, a = I ∧ i = 0) ∧ ¬ S0 I ∧ ga ≠ I ∧ s'.gens[g]? = some gs ∧ gs.Goes C.M A.in1 RI (YI C genv ax vs l z N I) (N - i) (.send .none) (s'.setGen g .running) := by
      by_cases h0' : i = 0
      · subst h0'
        obtain ⟨a, b⟩ := G'.st0 rfl
        refine ⟨s'.heap.objs.size, _, [s'.heap.objs.size], fun a m => by rw [List.mem_singleton.mp m]; exact get_size, by simp, fun a m => ⟨List.mem_singleton.mp m, rfl⟩, ?_, ?_, a, gen_fresh X V hl rv (o.le (by decide)) hN b hLa⟩
        · intro h
          rcases h with (h | ⟨m, e⟩ | m) | ⟨o, e⟩
          · exact W'.I.notOwn get_size (h ▸ W'.F.lown)
          · exact W'.I.notOwn get_size (W'.F.cown m _ e)
          · exact W'.I.notOwn get_size (hL' _ m)
          · obtain ⟨o', e'⟩ := W'.x.live _ o e
            rw [get_size] at e'; cases e'
        · intro z
          obtain ⟨o, _, _, e, _⟩ := G'.isg
          rw [z, get_size] at e; cases e
      · obtain ⟨I, gs, hI, nI, hne, hgs, hp, hk⟩ := G'.st1 (by omega)
        exact ⟨I, gs, [], fun a m => by simp at m, by simpa using hI, fun a m => by simp at m, nI, hne, hgs, hk hi _ hp⟩
    obtain ⟨I, gs, fr, hfr, hI, hfI, nI, hgI, hgs, hgo⟩ := pick
    refine gen_next o.handled o.room W'.I.lim G'.isg hgs hgo hi fun t s₄ gs' XX hgs' hbare hp hk => ?_
    dsimp only
    have chS : ∀ a, gch genv I a → ¬ S0 a := fun a h => by
      rcases h with rfl | rfl
      · exact G'.nL
      · exact nI
    have W₄ : Fw C env B s₄ (fr ++ own') ρ' lst' := W'.stepG (ch := gch genv I) (g := g) hfr (fun a m => by
        obtain ⟨rfl, h0'⟩ := hfI a m
        obtain ⟨o, e, _⟩ := hp.it (by rw [h0']; exact hl.z1)
        exact ⟨o, e⟩) (fun a h => ⟨by
          rcases h with rfl | rfl
          · exact List.mem_append_right _ G'.lown
          · exact hI, S0B a (chS a h)⟩) (fun a h z => chS a h (S0slot _ _ _ j' a z)) (fun y b e h => chS b h (.inl (.inr (.inr ((hJ _ _ _ j').2 y b e))))) XX hgB
    have axo' : ax ∉ fr ++ own' := fun m => by
      rcases List.mem_append.mp m with m | m
      · obtain ⟨o, e, _⟩ := G'.lst; rw [hfr _ m] at e; cases e
      · exact G'.axn m
    have axch : ¬ gch genv I ax := fun h => by
      rcases h with h | h
      · exact hLa h.symm
      · exact axo' (h ▸ hI)
    have G₄ : GenSt C A genv ga ax g vs l z N S0 (fr ++ own') (i + 1) s₄ := by
      refine ⟨?_, List.mem_append_right _ G'.gown, List.mem_append_right _ G'.lown, axo', G'.lst.at fun o e => XX.keep _ o axch e, G'.nL, G'.nG, G'.neL, fun h => by omega, fun _ => ⟨I, gs', hI, nI, hgI, hgs', hp, hk⟩⟩
      obtain ⟨o, nm, qn, e, r⟩ := G'.isg
      exact ⟨o, nm, qn, XX.keep _ _ (fun z => z.elim G'.neL hgI) e, r⟩
    refine wpAny_assign_Name (store_name (p := .cl (.int (sqAt l z i))) W₄.rebase hx ⟨t, rfl⟩ fun s₅ W₅ => ?_)
    refine wpAny_mono (turn _ i s₅ _ ρ' lst' hi j' W₅) (fun f s₆ h₆ => ?_) fun _ _ q => q.elim
    have next : (i + 1 < N ∧ ∃ own'' ρ'' lst'', Fw C env ⟨s₄, fr ++ own', slots env lst'⟩ s₆ own'' ρ'' lst'' ∧ J (i + 1) ρ'' lst'') →
        ∃ m, m < N - i ∧ ∃ i own' ρ' lst', i < N ∧ m = N - i ∧ Fw C env B s₆ own' ρ' lst' ∧ J i ρ' lst' ∧ GenSt C A genv ga ax g vs l z N S0 own' i s₆ ∧ ∀ a ∈ LL, a ∈ own' := by
      rintro ⟨hlt, own'', ρ'', lst'', W₆, j₆⟩
      refine ⟨N - (i + 1), by omega, i + 1, own'', ρ'', lst'', hlt, rfl, W₄.join W₆, j₆, G₄.frame W₆.x (S0slot _ _ _ j') (fun h => axo' (W₄.slotOwn h)) W₆.I.top W₆.incl (fun m => ?_), fun a m => W₆.incl a (List.mem_append_right _ (hL' a m))⟩
      rcases W₆.grow ax m with m | m
      · exact axo' m
      · obtain ⟨o, e, _⟩ := G₄.lst
        have m : s₄.heap.get? ax = none := m
        rw [e] at m; cases m
    cases f with
    | next => exact next h₆
    | cont => exact next h₆
    | brk =>
      obtain ⟨own'', ρ'', lst'', W₆, j₆⟩ := h₆
      exact k _ _ _ _ j₆ (W₄.join W₆)
    | ret v => exact h₆.elim
  exact key _ ⟨_, _, rfl⟩ rfl rfl
end
end Mine

-- part M25
namespace Mine
open PySem PySem.W PyProof.Rows

def tx (l : List Nat) : Str := ⟨l.toArray⟩
theorem tx_append (a b : List Nat) : tx a ++ tx b = tx (a ++ b) := by
  show Str.append (tx a) (tx b) = _
  simp [Str.append, tx]
theorem tx_length (a : List Nat) : (tx a).length = a.length := by show a.toArray.size = _; simp

section
variable {C : Cx} {n : Nat} {A : Around} {env : Env} {own : List Addr} {s : Shared} {ρ : Rho}

theorem op_adds {a b : List Nat} (h : a.length + b.length < 2 ^ 20) : Op2 C n (binaryOp .Add) (.str (tx a)) (.str (tx b)) (.str (tx (a ++ b))) := by
  rintro A own s _ _ Q E o I ⟨t, rfl⟩ ⟨u, rfl⟩ k
  refine PyProof.Rows.add_str (fun t' tk => ?_) (by rw [tx_length, tx_length, sizeLine_eq]; omega)
  rw [tx_append]
  exact k _ _ (.tok _ _ _) ⟨_, rfl⟩
theorem foldl_rep (c : Nat) : ∀ (k : Nat) (acc : Array Nat), (List.replicate k #[c]).foldl (· ++ ·) acc = acc ++ (List.replicate k c).toArray
  | 0, acc => by simp
  | k + 1, acc => by
    rw [List.replicate_succ, List.foldl_cons, foldl_rep c k, List.replicate_succ]
    apply Array.toList_inj.mp; simp
theorem op_muls {c k : Nat} (h : k < 2 ^ 20) : Op2 C n (binaryOp .Mult) (.str (tx [c])) (.int k) (.str (tx (List.replicate k c))) := by
  rintro A own s _ _ Q E o I ⟨t, rfl⟩ ⟨u, rfl⟩ kk
  have h1 : (tx [c]).length = 1 := rfl
  refine PySem.P.mul_str (by simp; omega) (fun hk _ => by rw [h1]; have : (1 : Int) ≤ (2 ^ 63 - 1) / (k : Int) := Int.le_ediv_of_mul_le (by omega) (by omega); omega) (fun _ _ => by rw [h1]; simp [Builtin.Str.tooLong, sizeLine_eq]; omega) ?_
  rcases Nat.lt_or_ge k 1 with hk | hk
  · have : k = 0 := by omega
    subst this
    rw [if_pos (by decide)]
    exact ⟨by decide, kk _ _ (.tok _ _ _) ⟨_, rfl⟩⟩
  · rw [if_neg (by omega)]
    split
    · rename_i h
      have : k = 1 := by
        rw [h1] at h
        simp at h
        omega
      subst this
      exact kk _ _ (.refl _ _) ⟨_, rfl⟩
    · have e : (⟨(List.replicate (k : Int).toNat (tx [c]).cps).foldl (· ++ ·) #[]⟩ : Str) = tx (List.replicate k c) := by
        have : (tx [c]).cps = #[c] := rfl
        rw [this, foldl_rep]; simp [tx]
      rw [e]
      exact ⟨by rw [tx_length, List.length_replicate, sizeLine_eq]; omega, kk _ _ (.tok _ _ _) ⟨_, rfl⟩⟩

/-- a list of texts -/
abbrev D.sl (l : List (List Nat)) : D := .list (l.map fun x => .str (tx x))
theorem RepL.texts : ∀ {l : List (List Nat)} {vs : List Value} {h : Heap}, RepL C h own vs (l.map fun x => D.str (tx x)) → ∃ ps : List (Str × Tok), vs = strValues ps ∧ ps.map (·.1) = l.map tx
  | [], vs, h, r => by simp only [List.map_nil, RepL] at r; subst r; exact ⟨[], rfl, rfl⟩
  | x :: l, vs, h, r => by
    simp only [List.map_cons, RepL, Rep] at r
    obtain ⟨v, t, rfl, ⟨k, rfl⟩, r⟩ := r
    obtain ⟨ps, rfl, e⟩ := RepL.texts r
    exact ⟨(tx x, k) :: ps, rfl, by simp [e]⟩
theorem glued_texts (l : List (List Nat)) : Builtin.Str.glued (tx []) (l.map tx) = tx l.flatten := by
  unfold Builtin.Str.glued
  have key : ∀ (l : List (List Nat)) (acc : Array Nat), (l.map tx).foldl (fun acc p => acc ++ (tx []).cps ++ p.cps) acc = acc ++ l.flatten.toArray := by
    intro l
    induction l with
    | nil => intro acc; simp
    | cons x l ih => intro acc; rw [List.map_cons, List.foldl_cons, ih]; apply Array.toList_inj.mp; simp [tx]
  cases l with
  | nil => rfl
  | cons x l =>
    simp only [List.map_cons, List.drop_succ_cons, List.drop_zero, List.headD_cons, List.flatten_cons]
    rw [key]
    simp [tx]
theorem foldl_len : ∀ (l : List (List Nat)) (k : Nat), ((l.map tx).toArray.foldl (fun a x => a + x.length + (tx []).length) k) = k + l.flatten.length := by
  intro l
  induction l with
  | nil => intro k; simp
  | cons x l ih =>
    intro k
    have := ih (k + (tx x).length + (tx []).length)
    simp only [List.map_cons, List.foldl_toArray, List.foldl_cons, List.flatten_cons, List.length_append] at this ⊢
    rw [this, tx_length, tx_length]; simp; omega

/-- ''.join(e) -/
theorem pe_join {k0 : Nat} {p apos pos : Pos} {e : Expr} {l : List (List Nat)} (he : PE C n env ρ e (.sl l)) (hl : l.flatten.length < 2 ^ 20)
    (hse : starEach [e] env = [(false, eval e env)] := by rfl) (hline : (apos.endLine == pos.line) = true := by rfl) :
    PE C n env ρ (.Call (.Attribute (.Constant (.str "") k0 p) (K "join") apos) [e] [] pos) (.str (tx l.flatten)) := by
  intro A own lst s Q E o I F kk
  refine wpAny_Call_method rfl (by rw [hse]; rfl) hline PySem.F.plainAttrs_str PySem.F.slot_str_join PySem.F.type_str_join (wpAny_Constant_str ⟨typeIs_str _ _ _, (fun _ h => by cases h), ?_⟩)
  refine Calls.callWith_builtin (by rw [hse]; rfl) (args1 hse (he A own lst _ _ _ o (I.x0 (.tok _ _ _)) (F.x0 (.tok _ _ _)) fun v s₁ x₁ r => ?_))
  simp only [Rep] at r
  obtain ⟨a, vs, rfl, ha, hl', r⟩ := r
  obtain ⟨ps, rfl, hps⟩ := RepL.texts r
  have hT : (Str.ofString "") = tx [] := rfl
  refine call_meets PySem.F.slot_str_join (typeIs_str _ _ _) PySem.F.entry_str_join (PySem.F.args_str_join_2 _ _) (meets_str_join_list _ _ a ps ?_) ⟨hl', ?_⟩
  · rw [hps, hT, foldl_len]
    unfold Builtin.Str.tooLong
    rw [decide_eq_false_iff_not, sizeLine_eq]; omega
  · have e1 : (joinMade (Str.ofString "") ps).post (fun v s' => Q v s') s₁ := by
      match ps, hps with
      | [q], hps =>
        obtain ⟨x, rfl⟩ : ∃ x, l = [x] := by
          have h1 : l.length = 1 := by simpa using (congrArg List.length hps).symm
          exact List.length_eq_one_iff.mp h1
        have hq : q.1 = tx x := by simpa using hps
        refine kk _ _ (.trans (.tok _ _ _) x₁) ⟨q.2, ?_⟩
        rw [hq]; simp
      | [], hps =>
        show (Made.str (Builtin.Str.glued (Str.ofString "") (([] : List (Str × Tok)).map (·.1)))).post _ _
        rw [hps, hT, glued_texts]
        exact ⟨by rw [tx_length, sizeLine_eq]; omega, kk _ _ ((XB.trans (.tok _ _ _) x₁).trans (.tok _ _ _)) ⟨_, rfl⟩⟩
      | q :: q' :: r, hps =>
        show (Made.str (Builtin.Str.glued (Str.ofString "") ((q :: q' :: r).map (·.1)))).post _ _
        rw [hps, hT, glued_texts]
        exact ⟨by rw [tx_length, sizeLine_eq]; omega, kk _ _ ((XB.trans (.tok _ _ _) x₁).trans (.tok _ _ _)) ⟨_, rfl⟩⟩
    exact e1
end
end Mine

-- part M26
namespace Mine
open PySem PySem.W PyProof.Rows

/-- a part of a slice -/
inductive SP (C : Cx) (n : Nat) (env : Env) (ρ : Rho) : Option Expr → Option Int → Prop where
  | none : SP C n env ρ none none
  | some {e : Expr} {i : Int} : PE C n env ρ e (.int i) → SP C n env ρ (some e) (some i)

def picks {α : Type} (l : List α) (lo hi st : Option Int) : List α :=
  (sliceRange (sliceBounds lo hi st l.length).1 (sliceBounds lo hi st l.length).2.1 (sliceBounds lo hi st l.length).2.2).filterMap (l[·]?)
theorem picks_map {α β : Type} (f : α → β) (l : List α) (lo hi st : Option Int) : picks (l.map f) lo hi st = (picks l lo hi st).map f := by
  unfold picks
  rw [List.length_map, List.map_filterMap]
  congr 1
  funext i
  simp
theorem picks_run {α : Type} (l : List α) (a : Nat) : ∀ k, a + k ≤ l.length → ((List.range k).map fun (j : Nat) => a + j).filterMap (l[·]?) = (l.drop a).take k
  | 0, _ => by simp
  | k + 1, h => by
    have ih := picks_run l a k (by omega)
    have hk : k < (l.drop a).length := by simp; omega
    rw [List.range_succ, List.map_append, List.filterMap_append, ih, List.take_succ_eq_append_getElem hk]
    congr 1
    simp only [List.map_cons, List.map_nil]
    rw [List.filterMap_cons_some (b := l[a + k]'(by omega)) (by simp)]
    simp
theorem picks_part {α : Type} (l : List α) {a b : Nat} (h : a ≤ b) (hb : b ≤ l.length) : picks l (some (a : Int)) (some (b : Int)) none = (l.drop a).take (b - a) := by
  have e : sliceBounds (some (a : Int)) (some (b : Int)) none l.length = ((a : Int), (b : Int), 1) := by
    have h1 : ¬ ((a : Int) < 0) := by omega
    have h2 : ¬ ((b : Int) < 0) := by omega
    simp only [sliceBounds, Option.getD_none, gt_iff_lt, Int.zero_lt_one, if_true, h1, h2, if_false]
    refine Prod.ext ?_ (Prod.ext ?_ rfl) <;> (dsimp only; omega)
  unfold picks
  rw [e]
  have e2 : sliceRange (a : Int) (b : Int) 1 = (List.range (b - a)).map fun (j : Nat) => a + j := by
    simp only [sliceRange, gt_iff_lt, Int.zero_lt_one, if_true]
    have : (if (a : Int) < (b : Int) then ((b : Int) - a + 1 - 1) / 1 else 0).toNat = b - a := by
      split <;> omega
    rw [this]
    apply List.map_congr_left
    intro k _
    omega
  rw [e2]
  exact picks_run l a (b - a) (by omega)
theorem picks_to {α : Type} (l : List α) {b : Nat} (hb : b ≤ l.length) : picks l none (some (b : Int)) none = l.take b := by
  have h2 : ¬ ((b : Int) < 0) := by omega
  have e : sliceBounds none (some (b : Int)) none l.length = (((0 : Nat) : Int), (b : Int), 1) := by
    simp only [sliceBounds, Option.getD_none, gt_iff_lt, Int.zero_lt_one, if_true, h2, if_false]
    refine Prod.ext ?_ (Prod.ext ?_ rfl) <;> (dsimp only; omega)
  have := picks_part l (a := 0) (b := b) (Nat.zero_le _) hb
  have e' : sliceBounds (some ((0 : Nat) : Int)) (some (b : Int)) none l.length = (((0 : Nat) : Int), (b : Int), 1) := by
    have h1 : ¬ (((0 : Nat) : Int) < 0) := by omega
    simp only [sliceBounds, Option.getD_none, gt_iff_lt, Int.zero_lt_one, if_true, h1, h2, if_false]
    refine Prod.ext ?_ (Prod.ext ?_ rfl) <;> (dsimp only; omega)
  unfold picks at this ⊢
  rw [e'] at this
  rw [e, this]; simp
theorem pick_eq (us : List Value) (lo hi st : Option Int) : slicePick us.toArray lo hi st = (picks us lo hi st).toArray := by
  unfold slicePick picks
  simp
theorem picks_len {α : Type} (l : List α) (lo hi st : Option Int) : (picks l lo hi st).length ≤ l.length := by
  have h := slicePick_size_le (l.map fun _ => Value.none).toArray lo hi st
  rw [pick_eq, picks_map] at h
  simpa using h

section
variable {C : Cx} {n : Nat} {A : Around} {env : Env} {own : List Addr} {s : Shared} {ρ : Rho}
theorem RepL.picks {h : Heap} {ds : List D} {vs : List Value} (r : RepL C h own vs ds) : ∀ idx : List Nat, RepL C h own (idx.filterMap (vs[·]?)) (idx.filterMap (ds[·]?))
  | [] => by simp [RepL]
  | i :: idx => by
    have ih := RepL.picks r idx
    have hlen := r.length
    cases hd : ds[i]? with
    | none =>
      have hv : vs[i]? = none := by rw [List.getElem?_eq_none_iff] at hd ⊢; omega
      rw [List.filterMap_cons_none hd, List.filterMap_cons_none hv]; exact ih
    | some d =>
      obtain ⟨v, hv, rv⟩ := r.get i d hd
      rw [List.filterMap_cons_some hd, List.filterMap_cons_some hv]
      exact RepL.cons rv ih
theorem sp_eval {oe : Option Expr} {oi : Option Int} (h : SP C n env ρ oe oi) {lst : Lst} {Q E : Value → Shared → Prop} (o : Ok n A) (I : Inv C s own) (F : Frm C env s.heap own ρ lst) (k : ∀ v s', XB no s s' → IsPart v oi → Q v s') :
    wpAny C.M A (valueOrNone (evalOpt oe env)) Q E s := by
  cases h with
  | none => exact wpAny_pure (k _ _ (.refl _ _) .none)
  | some he =>
    refine he A own lst s _ _ o I F fun v s' x r => ?_
    simp only [Rep] at r
    obtain ⟨t, rfl⟩ := r
    exact k _ _ x (.int _ t)
/-- e[lo:hi:st] -/
theorem pl_slice {value : Expr} {lo hi st : Option Expr} {p pos : Pos} {ds : List D} {a b c : Option Int} (hv : PE C n env ρ value (.list ds)) (h1 : SP C n env ρ lo a) (h2 : SP C n env ρ hi b) (h3 : SP C n env ρ st c) (h0 : c ≠ some 0) (hn : ds.length < 2 ^ 20)
    (hs : ∀ a u, ∃ ops, subscripted (.Slice lo hi st p) false (.ref a) (.ref u) = operate ops (getItem (.ref a) (.ref u)) := by intro _ _; exact ⟨_, rfl⟩) :
    PL C n env ρ (.Subscript value (.Slice lo hi st p) pos) (picks ds a b c) := by
  intro own lst s I F A Q E o kk
  refine PyProof.Rows.Subscript_ (hv A own lst s _ _ o I F fun v s₁ x₁ r₁ => ?_)
  have I₁ := I.x0 x₁
  have F₁ := F.x0 x₁
  rw [arm_eval_Slice]
  refine wpAny_bind (sp_eval h1 o I₁ F₁ fun v1 s₂ x₂ p1 => wpAny_bind (wpAny_holding (sp_eval h2 o (I₁.x0 x₂) (F₁.x0 x₂) fun v2 s₃ x₃ p2 => wpAny_bind (wpAny_holding (sp_eval h3 o ((I₁.x0 x₂).x0 x₃) ((F₁.x0 x₂).x0 x₃) fun v3 s₄ x₄ p3 => ?_)))))
  have X : XB no s₁ s₄ := (x₂.trans x₃).trans x₄
  simp only [newFields]
  refine wpAny_newObj_type ?_ (by size_fits)
  have r₄ := r₁.keeps X.keeps
  simp only [Rep] at r₄
  obtain ⟨l, us, rfl, hl, la, ru⟩ := r₄
  have up : ∀ b o, s₄.heap.get? b = some o → (s₄.heap.push { cls := .type "slice", data := .fields #[v1, v2, v3] }).get? b = some o := fun b o e => Heap.get?_push_of_some _ e
  have la' := la.at fun o e => up _ o e
  obtain ⟨ops, hs⟩ := hs l s₄.heap.objs.size
  refine tail_any la'.typeIs slot_list_getitem.lookup (wpAny_getItem_list_slice (items := us.toArray) la' (Heap.IsSliceOf.new _ _ _ _) p1 p2 p3 h0 ?_ (by rw [List.size_toArray, ru.length, sizeLine_eq]; omega)) hs
  have hp : slicePick us.toArray a b c = (picks us a b c).toArray := pick_eq us a b c
  rw [hp]
  have X2 : XB no s₄ { s₄ with heap := s₄.heap.push { cls := .type "slice", data := .fields #[v1, v2, v3] } } := .push _ _ _ s₄.toks
  have x0 := (x₁.trans X).trans X2
  refine kk _ (picks us a b c) _ (x0.trans (.push _ _ _ s₄.toks)) (x0.dead get_size) ⟨0, Heap.get?_push_size _ rfl⟩ ?_
  have rr : RepL C (s₄.heap.push { cls := .type "slice", data := .fields #[v1, v2, v3] }) own (picks us a b c) (picks ds a b c) := by
    unfold picks
    rw [ru.length]
    exact (ru.keeps up).picks _
  exact (rr.fresh (l := [_]) fun b m => by rw [List.mem_singleton.mp m]; exact get_size).keeps fun b o e => Heap.get?_push_of_some _ e
end
end Mine

-- part M27
namespace Mine
open PySem PySem.W PyProof.Rows

theorem cellsFrom_has : ∀ (names : List (Str × NameKind)) (n : Nat) (acc : List (Str × Addr)) (x : Str), ((∃ c, acc.lookup x = some c) ∨ (x, NameKind.cell) ∈ names) → ∃ c, (cellsFrom n names acc).lookup x = some c
  | [], n, acc, x, h => h.elim id fun h => by cases h
  | (y, k) :: r, n, acc, x, h => by
    unfold cellsFrom
    split
    · rename_i hk
      refine cellsFrom_has r _ _ x ?_
      rcases h with ⟨c, h⟩ | h
      · left; rw [List.lookup_cons]; split
        · exact ⟨_, rfl⟩
        · exact ⟨c, h⟩
      · rcases List.mem_cons.mp h with e | h
        · cases e; left; simp
        · exact .inr h
    · rename_i hk
      refine cellsFrom_has r _ _ x ?_
      rcases h with h | h
      · exact .inl h
      · rcases List.mem_cons.mp h with e | h
        · cases e; simp at hk
        · exact .inr h

theorem binds_getC {C : Cx} {h : Heap} {own : List Addr} {kd : Str → Option NameKind} : ∀ {bs : List (Str × Value)} {ps : List (Str × Sp)}, BindsAre C h own bs ps → ∀ (ρ : Rho) (m cm : Str → Option Value),
    (∀ x p, ρ x = some p → ∃ v, p.Is C h own v ∧ (kd x = some .local → m x = some v) ∧ (kd x ≠ some .local → cm x = some v)) →
    ∀ x p, rhoOf ps ρ x = some p → ∃ v, p.Is C h own v ∧ (kd x = some .local → bindL kd bs m x = some v) ∧ (kd x ≠ some .local → bindC kd bs cm x = some v)
  | _, _, .nil, _, _, _, H, x, p, e => H x p e
  | _, _, .cons (x := y) (v := v) (p := q) hq r, ρ, m, cm, H, x, p, e => by
    unfold bindL bindC
    refine binds_getC r _ _ _ (fun z p' e' => ?_) x p e
    unfold Rho.set at e'
    by_cases hz : z = y
    · subst hz
      rw [if_pos rfl] at e'; cases e'
      refine ⟨v, hq, fun hk => ?_, fun hk => ?_⟩
      · rw [if_pos hk]; simp
      · rw [if_neg hk]; simp
    · rw [if_neg hz] at e'
      obtain ⟨u, a, b, c⟩ := H z p' e'
      refine ⟨u, a, fun hk => ?_, fun hk => ?_⟩
      · split
        · simp [hz, b hk]
        · exact b hk
      · split
        · exact c hk
        · simp [hz, c hk]

section
variable {C : Cx} {n : Nat} {A : Around} {own : List Addr} {s : Shared} {R : Result → Shared → Prop}
/-- a def with cells is called -/
theorem enterC {f : Addr} {fd : FuncData} {body : List Stmt} {vals : List Value} {binds : List (Str × Value)} {ps : List (Str × Sp)} (o : Ok (n + 1) A) (I : Inv C s own) (fn : FnOK C f fd body)
    (hb : bindArgs fd ⟨vals, []⟩ = pure binds) (hloc : (ps.all fun x => fd.scope.names.lookup x.1 == some .local || fd.scope.names.lookup x.1 == some .cell) = true)
    (hps : BindsAre C s.heap own binds ps)
    (k : ∀ s₁ env, env.scope = fd.scope → s.heap.get? env.locals = none → (∀ x, fd.scope.names.lookup x = some .cell → ∃ c, env.cells.lookup x = some c) → (∀ n c, env.cells.lookup n = some c → s.heap.get? c = none) → (∃ own', Fw C env ⟨s, own, no⟩ s₁ own' (rhoOf ps noR) noL) →
      wpAny C.M (A.deeper env) (execs body env) (fun fl s' => R (.ok (.ret (match fl with | .ret v => v | _ => .none))) s') (fun _ _ => False) s₁)
    (hgen : fd.scope.isGenerator = false) : codeAny C.M A (.call (.ref f) ⟨vals, []⟩) R s := by
  obtain ⟨oc, od, osl, hat⟩ := fn.at
  have ho := I.K _ _ hat
  have hn : binds.map (·.1) = ps.map (·.1) := by
    clear hloc hb k
    induction hps with
    | nil => rfl
    | cons _ _ ih => simp [ih]
  have hkind : ∀ x ∈ binds, fd.scope.names.lookup x.1 = some .local ∨ (fd.scope.names.lookup x.1 = some .cell ∧ ((cellsFrom (s.heap.objs.size + 1) fd.scope.names []).lookup x.1).isSome = true) := fun x hx => by
    have : x.1 ∈ ps.map (·.1) := hn ▸ List.mem_map_of_mem hx
    obtain ⟨q, hq, e⟩ := List.mem_map.mp this
    have := List.all_eq_true.mp hloc q hq
    rw [e] at this
    simp only [Bool.or_eq_true, beq_iff_eq] at this
    rcases this with h | h
    · exact .inl h
    · obtain ⟨c, hc⟩ := cellsFrom_has fd.scope.names (s.heap.objs.size + 1) [] x.1 (.inr (mem_of_lookup h))
      exact .inr ⟨h, by rw [hc]; rfl⟩
  refine codeAny_call_cells o.room ho rfl I.lim (codeRec_of I.K fn.code) fn.body hb fn.clos hkind (fun s₁ X => ?_) fn.co hgen fn.kind
  generalize hE : callEnvC fd s.heap.objs.size f = env at X ⊢
  have e1 : env.scope = fd.scope := by rw [← hE]; rfl
  have e2 : env.locals = s.heap.objs.size := by rw [← hE]; rfl
  have e3 : env.globals = mainGlobals := by rw [← hE]; exact fn.glob
  have e4 : env.builtins = builtinsNs := by rw [← hE]; exact fn.bui
  have e5 : env.cells = cellsFrom (s.heap.objs.size + 1) fd.scope.names [] := by rw [← hE]; rfl
  obtain ⟨h', tk, hs, kk⟩ := X.done
  have x0 : XB no s s₁ := by rw [hs]; exact .of_heap kk
  have memL : ∀ {l : List (Str × Addr)} {x : Str} {c : Addr}, l.lookup x = some c → (x, c) ∈ l := fun {l x c} h => by
    induction l with
    | nil => cases h
    | cons p r ih =>
      obtain ⟨y, d⟩ := p
      rw [List.lookup_cons] at h
      split at h
      · rename_i hb
        have : x = y := by simpa using hb
        cases h; rw [this]; exact List.mem_cons_self
      · exact List.mem_cons_of_mem _ (ih h)
  have hLd : s.heap.get? env.locals = none := by rw [e2]; exact get_size
  have hcd : ∀ n c, env.cells.lookup n = some c → s.heap.get? c = none := fun n c h => get_ge (by have := X.above n c (memL h); rw [e2] at this; exact Nat.le_of_lt this)
  have hfr : ∀ a ∈ env.cells.map (·.2) ++ [env.locals], s.heap.get? a = none := fun a m => by
    rcases List.mem_append.mp m with m | m
    · obtain ⟨⟨n, c⟩, hm, rfl⟩ := List.mem_map.mp m
      exact get_ge (by have := X.above n c hm; rw [e2] at this; exact Nat.le_of_lt this)
    · rw [List.mem_singleton.mp m]; exact hLd
  have apart : ∀ n n' c, env.cells.lookup n = some c → env.cells.lookup n' = some c → n = n' := fun n n' c h h' => by
    have hp := X.apart
    have m1 := memL h
    have m2 := memL h'
    exact name_of_addr hp m1 m2
  have lL : ∃ o, s₁.heap.get? env.locals = some o := let ⟨o, _, _, e, _⟩ := X.toInCall.ns; ⟨o, e⟩
  refine wpAny_mono (k s₁ env e1 hLd (fun x h => by rw [e5]; exact cellsFrom_has _ _ _ x (.inr (mem_of_lookup_some h))) hcd ⟨(env.cells.filterMap fun p => if env.cells.lookup p.1 = some p.2 then some p.2 else none) ++ env.locals :: own, ?_⟩) (fun _ _ q => q) fun _ _ q => q.elim
  have hcm : ∀ c, c ∈ (env.cells.filterMap fun p => if env.cells.lookup p.1 = some p.2 then some p.2 else none) → ∃ n, env.cells.lookup n = some c := fun c m => by
    obtain ⟨p, hp, e⟩ := List.mem_filterMap.mp m
    split at e
    · rename_i h; cases e; exact ⟨_, h⟩
    · cases e
  have hcm' : ∀ n c, env.cells.lookup n = some c → c ∈ (env.cells.filterMap fun p => if env.cells.lookup p.1 = some p.2 then some p.2 else none) := fun n c h =>
    List.mem_filterMap.mpr ⟨(n, c), memL h, by simp [h]⟩
  generalize (env.cells.filterMap fun p => if env.cells.lookup p.1 = some p.2 then some p.2 else none) = cs at hcm hcm'
  have fr2 : ∀ a ∈ cs ++ [env.locals], s.heap.get? a = none := fun a m => by
    rcases List.mem_append.mp m with m | m
    · obtain ⟨n, h⟩ := hcm a m; exact hcd n a h
    · rw [List.mem_singleton.mp m]; exact hLd
  have ow : cs ++ env.locals :: own = (cs ++ [env.locals]) ++ own := by simp
  rw [ow]
  refine ⟨⟨(I.x0 x0).top, fun a m => ?_, fun a m => ?_⟩, ?_, x0, fun c hc => ?_, fun a m => ?_, fun a m => List.mem_append_right _ m⟩
  · rcases List.mem_append.mp m with m | m
    · rcases List.mem_append.mp m with m | m
      · obtain ⟨n, h⟩ := hcm a m
        obtain ⟨o, e, _⟩ := X.cell n a h
        exact ⟨o, e⟩
      · rw [List.mem_singleton.mp m]; exact lL
    · exact (I.x0 x0).live a m
  · rcases List.mem_append.mp m with m | m
    · exact I.new (fr2 a m)
    · exact I.off a m
  · refine ⟨by rw [e1]; exact fn.kind, e3, e4, ⟨_, X.toInCall.ns⟩, fun n c h => ⟨_, X.cell n c h⟩, apart, fun n c h z => ?_, by simp, fun n c h => List.mem_append_left _ (List.mem_append_left _ (hcm' n c h)), fun x p e => ?_, fun _ _ e => by cases e⟩
    · have := X.above n c (memL h)
      rw [z] at this; exact Nat.lt_irrefl _ this
    · obtain ⟨v, a, b, c⟩ := binds_getC (kd := env.kindOf) hps noR (fun _ => none) (fun _ => none) (fun _ _ e => by cases e) x p e
      have hx := rho_names (names := fun x => fd.scope.names.lookup x = some .local ∨ fd.scope.names.lookup x = some .cell) (ρ := noR) (fun _ _ e => by cases e) (fun q m => by
        have := List.all_eq_true.mp hloc q m; simpa using this) x p e
      have hkx : env.kindOf x = fd.scope.names.lookup x := by unfold Env.kindOf; rw [e1]
      have pis : p.Is C s₁.heap ((cs ++ [env.locals]) ++ own) v := by
        cases p with
        | cl d => exact Rep.keeps (Rep.fresh (d := d) a fr2) x0.keeps
        | raw u => exact a
        | «at» b' => exact ⟨a.1, List.mem_append_right _ a.2.1, let ⟨i, q⟩ := a.2.2; ⟨i, q.at fun o e => x0.keeps _ o e⟩⟩
      refine ⟨v, ?_, pis⟩
      rcases hx with h | h
      · exact .inl ⟨hkx.trans h, _, X.toInCall.ns, b (hkx.trans h)⟩
      · have hne : env.kindOf x ≠ some .local := by rw [hkx, h]; decide
        obtain ⟨c', hc'⟩ := cellsFrom_has fd.scope.names (s.heap.objs.size + 1) [] x (.inr (mem_of_lookup_some h))
        rw [← e5] at hc'
        exact .inr ⟨.inl (hkx.trans h), c', hc', c hne ▸ X.cell x c' hc'⟩
  · rcases hc with rfl | ⟨n, e⟩ | ⟨ds, e⟩
    · exact .inl hLd
    · exact .inl (hcd n c e)
    · cases e
  · rcases List.mem_append.mp m with m | m
    · exact .inr (fr2 a m)
    · exact .inl m
end
end Mine

-- part M27b
namespace Mine
open PySem PySem.W PyProof.Rows

theorem outs_over {α : Type} (src : List α) (p : α → Bool) (g : α → D) : ∀ k, k ≤ src.length → outs (fun i => (src[i]?.map p).getD false) (fun i => (src[i]?.map g).getD .none) k = ((src.take k).filter p).map g
  | 0, _ => by simp [outs]
  | k + 1, h => by
    have ih := outs_over src p g k (by omega)
    rw [outs_succ, ih, List.take_succ_eq_append_getElem (by omega), List.filter_append, List.map_append]
    congr 1
    have : src[k]? = some src[k] := List.getElem?_eq_getElem (by omega)
    simp only [this, Option.map_some, Option.getD_some]
    cases hp : p src[k] <;> simp [hp]

section
variable {C : Cx} {m : Nat} {env : Env} {ρ : Rho}
theorem only_none {fr : List Str} {x : Str} {v : Sp} (h : fr.contains x = false) : ∀ y p, (ρ.only fr) y = some p → ((ρ.only fr).set x v) y = some p := fun y p e => by
  unfold Rho.set
  split
  · rename_i q
    subst q
    unfold Rho.only at e
    rw [h] at e
    simp at e
  · exact e
theorem comp_local {scope : Scope} {cl : List (Str × Addr)} {c₀ : Addr} {x : Str} (hx : scope.names.lookup x = some .local) : (compEnvC scope cl c₀ env).kindOf x = some .local := lookup_relabel_local hx

/-- [elt for x in (a list of data) if ..] -/
theorem pl_over {α : Type} {x : Str} {px : Pos} {elt iter : Expr} {ifs : List Expr} {scope : Scope} {cl : List (Str × Addr)} {fr : List Str} {pos : Pos} {d : D} {src : List α} {f g : α → D} {p : α → Bool} (S : CS env scope cl fr) (he : PE C m env ρ iter d)
    (hd : d = .list (src.map f) ∨ d = .tuple (src.map f) ∨ ∃ a c, d = .rng a c src.length ∧ ∀ i v, src[i]? = some v → f v = .int (a + (i : Nat) * c)) (hn : src.length < 2 ^ 20) (hx : scope.names.lookup x = some .local) (hxf : fr.contains x = false)
    (test : ∀ a c₀, CT C m (compEnvC scope cl c₀ env) ((ρ.only fr).set x (.cl (f a))) ifs (p a))
    (body : ∀ a c₀, a ∈ src → p a = true → PE C m (compEnvC scope cl c₀ env) ((ρ.only fr).set x (.cl (f a))) elt (g a))
    (hs : ∀ x, foldedSetIterable iter env x = pure x := by intro _; rfl) : PL C m env ρ (.ListComp elt [⟨.Name x px, iter, ifs, 0⟩] scope pos) ((src.filter p).map g) := by
  have key : PL C m env ρ (.ListComp elt [⟨.Name x px, iter, ifs, 0⟩] scope pos) (outs (fun i => (src[i]?.map p).getD false) (fun i => (src[i]?.map g).getD .none) src.length) := by
    have get : ∀ i, i < src.length → ∃ a, src[i]? = some a ∧ a ∈ src := fun i hi => ⟨src[i], List.getElem?_eq_getElem hi, List.getElem_mem hi⟩
    refine pl_comp (dat := fun i => (src[i]?.map f).getD .none) (ρc := fun i => (ρ.only fr).set x (.cl ((src[i]?.map f).getD .none))) (d := d) S he ?_ hn (fun i => only_none hxf) (fun A c₀ i hi => ca_name (comp_local hx)) (fun c₀ i hi => ?_) (fun c₀ i hi ht => ?_) hs (fun _ _ => rfl)
    · rcases hd with rfl | rfl | ⟨a, c, rfl, h⟩
      · exact .list (by simp) fun i d e => by simp at e; obtain ⟨a, e1, e2⟩ := e; simp [e1, e2]
      · exact .tuple (by simp) fun i d e => by simp at e; obtain ⟨a, e1, e2⟩ := e; simp [e1, e2]
      · exact .rng fun i hi => by obtain ⟨v, e, _⟩ := get i hi; simp only [e, Option.map_some, Option.getD_some]; exact h i v e
    · obtain ⟨a, e, hm⟩ := get i hi
      simp only [e, Option.map_some, Option.getD_some]
      exact test a c₀
    · obtain ⟨a, e, hm⟩ := get i hi
      simp only [e, Option.map_some, Option.getD_some] at ht ⊢
      exact body a c₀ hm ht
  rw [outs_over src p g src.length (Nat.le_refl _), List.take_length] at key
  exact key
/-- the same, where the stores change places -/
theorem st_over {B : Org} {own : List Addr} {s : Shared} {lst : Lst} {rest : List Stmt} {Q : Flow → Shared → Prop} {E : Value → Shared → Prop} {A : Around} {α : Type} {x y : Str} {px py : Pos} {elt iter : Expr} {ifs : List Expr} {scope : Scope} {cl : List (Str × Addr)} {fr : List Str} {pos spos : Pos} {d : D} {src : List α} {f g : α → D} {p : α → Bool} (o : Ok m A) (W : Fw C env B s own ρ lst)
    (S : CS env scope cl fr) (he : PE C m env ρ iter d)
    (hd : d = .list (src.map f) ∨ d = .tuple (src.map f) ∨ ∃ a c, d = .rng a c src.length ∧ ∀ i v, src[i]? = some v → f v = .int (a + (i : Nat) * c)) (hn : src.length < 2 ^ 20) (hx : scope.names.lookup x = some .local) (hxf : fr.contains x = false)
    (test : ∀ a c₀, CT C m (compEnvC scope cl c₀ env) ((ρ.only fr).set x (.cl (f a))) ifs (p a))
    (body : ∀ a c₀, a ∈ src → p a = true → PE C m (compEnvC scope cl c₀ env) ((ρ.only fr).set x (.cl (f a))) elt (g a)) (hy : Stores env y)
    (k : ∀ s' own', Fw C env B s' own' (ρ.set y (.cl (.list ((src.filter p).map g)))) lst → wpAny C.M A (execs rest env) Q E s')
    (hsw : swapsWith (.ListComp elt [⟨.Name x px, iter, ifs, 0⟩] scope pos) (some (.Name y py)) spos.line env = pure true)
    (hs : ∀ x, foldedSetIterable iter env x = pure x := by intro _; rfl) : wpAny C.M A (execs (.Assign [.Name y py] (.ListComp elt [⟨.Name x px, iter, ifs, 0⟩] scope pos) spos :: rest) env) Q E s := by
  have get : ∀ i, i < src.length → ∃ a, src[i]? = some a ∧ a ∈ src := fun i hi => ⟨src[i], List.getElem?_eq_getElem hi, List.getElem_mem hi⟩
  refine st_comp (dat := fun i => (src[i]?.map f).getD .none) (g := fun i => (src[i]?.map g).getD .none) (tst := fun i => (src[i]?.map p).getD false) (ρc := fun i => (ρ.only fr).set x (.cl ((src[i]?.map f).getD .none))) (n := src.length) (d := d) o W S he ?_ hn (fun i => only_none hxf) (fun A c₀ i hi => ca_name (comp_local hx)) (fun c₀ i hi => ?_) (fun c₀ i hi ht => ?_) hy (fun s' own' W => ?_) hsw hs (fun _ _ => rfl)
  · rcases hd with rfl | rfl | ⟨a, c, rfl, h⟩
    · exact .list (by simp) fun i d e => by simp at e; obtain ⟨a, e1, e2⟩ := e; simp [e1, e2]
    · exact .tuple (by simp) fun i d e => by simp at e; obtain ⟨a, e1, e2⟩ := e; simp [e1, e2]
    · exact .rng fun i hi => by obtain ⟨v, e, _⟩ := get i hi; simp only [e, Option.map_some, Option.getD_some]; exact h i v e
  · obtain ⟨a, e, hm⟩ := get i hi
    simp only [e, Option.map_some, Option.getD_some]
    exact test a c₀
  · obtain ⟨a, e, hm⟩ := get i hi
    simp only [e, Option.map_some, Option.getD_some] at ht ⊢
    exact body a c₀ hm ht
  · rw [outs_over src p g src.length (Nat.le_refl _), List.take_length] at W
    exact k s' own' W
end
end Mine

-- part M28
namespace Mine
open PySem PySem.W PyProof.Rows

theorem op_gt {C : Cx} {n : Nat} {a b : Int} : Op2 C n (compareOp .Gt) (.int a) (.int b) (.bool (decide (a > b))) := by
  rintro A own s _ _ Q E o I ⟨t, rfl⟩ ⟨u, rfl⟩ k
  exact PySem.P.gt_int (k _ _ (.refl _ _) rfl)
structure PFacts (C : Cx) (ini eqf gi pf : Addr) (fi fe fg fp : FuncData) : Prop extends NFacts C ini eqf fi fe, GFacts C gi fg where
  hpf : FnAt C 13 pf fp
  npf : C.mg (K "_law_pieces") = some (.ref pf)
  bindp : ∀ u v w, bindArgs fp ⟨[u, v, w], []⟩ = pure [(K "deck", u), (K "sizes", v), (K "fulls", w)]
  keepc : keepIn C.K (.ref C.cw) = true
  keepe : keepIn C.K (.ref eqf) = true

local macro_rules | `(tactic| walk_at "nm") => `(tactic| repeat' (first | assumption | exact Rho.same | exact Rho.bor_same | refine Rho.only_in (by decide) ?_ | refine Rho.bor_ne (by decide) ?_ | refine Rho.ne (by decide) ?_))

def runD (c size : Int) : List Nat := List.replicate (c.fmod size).toNat 32 ++ [9]
def pcFlag (deck : List Int) (fd : List (List Int × Nat)) (place size : Nat) : Bool :=
  decide (wsOf (tx ((((deck.drop place).take size).map fun c => runD c size).flatten)) = fd.getD size ([], 0))
def pcsGo (deck : List Int) (fd : List (List Int × Nat)) (sz : Nat → Nat) : Nat → Nat → Nat → List Bool → List Bool
  | 0, _, _, flags => flags
  | k + 1, i, place, flags => if place + sz i > deck.length then flags else pcsGo deck fd sz k (i + 1) (place + sz i) (flags ++ [pcFlag deck fd place (sz i)])
def pcs (deck : List Int) (fd : List (List Int × Nat)) (l : List Int) (z : Nat) : List Bool := pcsGo deck fd (fun i => (sqAt l z i).toNat) (deck.length + 1) 0 0 []

theorem flat_le {α : Type} {l : List (List α)} {B : Nat} (h : ∀ x ∈ l, x.length ≤ B) : l.flatten.length ≤ l.length * B := by
  induction l with
  | nil => simp
  | cons x l ih =>
    have h1 := h x List.mem_cons_self
    have h2 := ih fun y m => h y (List.mem_cons_of_mem _ m)
    rw [List.flatten_cons, List.length_append, List.length_cons, Nat.succ_mul]
    omega

abbrev D.wsl (fd : List (List Int × Nat)) : D := .list (fd.map fun q => .ws q.1 (q.2 : Int))
structure PSt (deck : List Int) (fd : List (List Int × Nat)) (p : Addr) (place : Nat) (flags : List Bool) (ρ : Rho) (lst : Lst) : Prop where
  dk : ρ (K "deck") = some (.cl (.il deck))
  fl : ρ (K "fulls") = some (.cl (D.wsl fd))
  pl : ρ (K "place") = some (.cl (.int place))
  fg : ρ (K "flags") = some (.at p)
  ls : lst p = some (flags.map .bool)
  only : ∀ b ds, lst b = some ds → b ∈ [p]
  ats : ∀ y b, ρ y = some (.at b) → b ∈ [p]
theorem ats_set {ρ : Rho} {p : Addr} {x : Str} {d : D} (h : ∀ y b, ρ y = some (.at b) → b ∈ [p]) : ∀ y b, (ρ.set x (.cl d)) y = some (.at b) → b ∈ [p] := fun y b e => by
  unfold Rho.set at e
  split at e
  · cases e
  · exact h y b e
theorem only_set {lst : Lst} {p : Addr} {es : List D} (h : ∀ b ds, lst b = some ds → b ∈ [p]) : ∀ b ds, (lst.set p es) b = some ds → b ∈ [p] := fun b ds e => by
  unfold Lst.set at e
  split at e
  · rename_i q; simp [q]
  · exact h b ds e

section
variable {C : Cx} {ini eqf gi pf : Addr} {fi fe fg fp : FuncData}
theorem pcs_spec (X : PFacts C ini eqf gi pf fi fe fg fp) {deck l : List Int} {z : Nat} {fd : List (List Int × Nat)} (hn : deck.length ≤ 100) (hl : SqOk l z) (hpos : ∀ i, 1 ≤ sqAt l z i) (hfd : fd.length = deck.length + 1) :
    OpN C 12 (.ref pf) [.il deck, .il l, D.wsl fd] (.bl (pcs deck fd l z)) := by
  intro A own s vs Q E o I r k
  simp only [RepL] at r
  obtain ⟨u, _, rfl, ru, v, _, rfl, rv, w, _, rfl, rw, rfl⟩ := r
  refine wpAny_call (enterC (ps := [(K "deck", .cl (.il deck)), (K "sizes", .cl (.il l)), (K "fulls", .cl (D.wsl fd))]) o I X.hpf.ok (X.bindp u v w) (by rw [X.hpf.scope]; rfl)
    (.cons ru (.cons rv (.cons rw .nil))) (fun s₁ env he hL hcl hcd ⟨own₁, W⟩ => ?_) (by rw [X.hpf.scope]; rfl))
  simp only [rhoOf] at W
  have o2 : Ok 11 (A.deeper env) := o.deeper
  have st : ∀ x, (scopeAt 13).names.lookup x = some .local → Stores env x := fun x e => .inl (ko he X.hpf.scope e)
  have gl : ∀ {x v}, (scopeAt 13).names.lookup x = some .globalImplicit → (C.mg x = some v ∨ (C.mg x = none ∧ C.mb x = some v)) → GN C env x v := fun e h => ⟨ko he X.hpf.scope e, h⟩
  have stc : Stores env (K "size") := .inr ⟨ko he X.hpf.scope rfl, by obtain ⟨c, hc⟩ := hcl (K "size") (by rw [X.hpf.scope]; rfl); rw [hc]; rfl⟩
  refine sv_newlist o2 W el_nil (st _ rfl) fun s₂ p hp W => ?_
  refine st_assign o2 W pe_int (st _ rfl) fun s₃ W => ?_
  refine st_forG (LL := [p]) (N := deck.length + 1) (l := l) (z := z)
    (J := fun i ρ lst => ∃ place flags, pcs deck fd l z = pcsGo deck fd (fun i => (sqAt l z i).toNat) (deck.length + 1 - i) i place flags ∧ i ≤ place ∧ place ≤ deck.length ∧ flags.length ≤ i ∧ PSt deck fd p place flags ρ lst)
    (Jx := fun ρ lst => ρ (K "flags") = some (.at p) ∧ lst p = some ((pcs deck fd l z).map .bool)) X.toGFacts (o2.le (by decide)) W (gl rfl (.inl X.ngi)) (pe_name (d := .il l) (by walk_at "nm")) hl (by omega) stc ?h0 (by simp)
    (fun i ρ lst h => by obtain ⟨_, _, _, _, _, _, h⟩ := h; exact ⟨h.only, h.ats⟩) ?turn ?k
  case h0 =>
    refine ⟨0, [], rfl, Nat.le_refl _, Nat.zero_le _, Nat.le_refl _, ⟨by walk_at "nm", by walk_at "nm", by walk_at "nm", by walk_at "nm", Lst.same, only_set (fun _ _ e => by cases e), ats_set ?_⟩⟩
    intro y b e
    unfold Rho.set at e
    split at e
    · cases e; simp
    · split at e
      · cases e
      · split at e
        · cases e
        · split at e
          · cases e
          · cases e
  case k =>
    rintro s₅ own₅ ρ lst ⟨h1, h2⟩ W
    refine st_returnAt W h1 ?_
    obtain ⟨hm, us, q, rus⟩ := W.F.lst p _ h2
    refine k _ _ W.x ?_
    simp only [Rep]
    refine ⟨p, us, rfl, fun m => ?_, q.isList, rus.less W.incl⟩
    have := W.new p (.inr (.inr ⟨_, h2⟩))
    obtain ⟨o', e'⟩ := I.live p m
    rcases this with z | z
    · rw [e'] at z; cases z
    · exact z
  case turn =>
    rintro B' i s₄ own₄ ρ lst hi ⟨place, flags, hpc, hip, hpl, hfl, H⟩ W
    obtain ⟨sz, hsz⟩ : ∃ sz : Nat, sqAt l z i = sz := ⟨(sqAt l z i).toNat, by have := hpos i; omega⟩
    have hsz1 : 1 ≤ sz := by have := hpos i; omega
    obtain ⟨kf, hkf⟩ : ∃ kf, deck.length + 1 - i = kf + 1 := ⟨deck.length - i, by omega⟩
    have hkf' : deck.length + 1 - (i + 1) = kf := by omega
    rw [hkf, pcsGo, hsz, Int.toNat_natCast] at hpc
    rw [hsz] at W
    have hdk := H.dk
    have hfl' := H.fl
    have hpl' := H.pl
    have hfg := H.fg
    have o3 : Ok 10 (A.deeper env) := o2.le (by decide)
    refine st_if o3 W (pt_cmp (pe_bin (pe_name (d := .int place) (by walk_at "nm")) (pe_name (d := .int sz) (by walk_at "nm")) op_add) (pe_call (gl rfl (.inr ⟨X.len, X.len'⟩)) (pel_cons (pe_name (d := .il deck) (by walk_at "nm")) pel_nil) (opn_len (by simp; omega)) (.inl ⟨_, rfl⟩)) op_gt) fun s₅ W => ?_
    have hlen : (List.map D.int deck).length = deck.length := by simp
    rw [hlen]
    by_cases hgt : place + sz > deck.length
    · rw [if_pos hgt] at hpc
      rw [if_pos (by simp; omega)]
      refine st_break ⟨_, _, _, W, by walk_at "nm", ?_⟩
      rw [H.ls, hpc]
    · rw [if_neg hgt] at hpc
      rw [if_neg (by simp; omega)]
      refine st_nil ?_
      have hcs : ∀ y ∈ [K "size"], env.kindOf y ≠ some .local ∧ (env.cells.lookup y).isSome = true := fun y m => by
        rw [List.mem_singleton.mp m]
        refine ⟨by rw [ko he X.hpf.scope (k := .cell) rfl]; decide, ?_⟩
        obtain ⟨c, hc⟩ := hcl (K "size") (by rw [X.hpf.scope]; rfl)
        rw [hc]; rfl
      have hmod : ∀ c : Int, 0 ≤ c.fmod sz ∧ c.fmod sz < sz := fun c => ⟨Int.fmod_nonneg_of_pos c (by omega), Int.fmod_lt_of_pos c (by omega)⟩
      have hrl : ∀ c, (runD c sz).length ≤ 101 := fun c => by
        unfold runD
        have := hmod c
        simp; omega
      have htl : ((((deck.drop place).take sz).map fun c => runD c sz).flatten).length < 2 ^ 18 := by
        have h1 := flat_le (l := ((deck.drop place).take sz).map fun c => runD c sz) (B := 101) (fun x hx => by obtain ⟨c, _, rfl⟩ := List.mem_map.mp hx; exact hrl c)
        have h2 : (((deck.drop place).take sz).map fun c => runD c sz).length ≤ 100 := by simp; omega
        have h3 := Nat.mul_le_mul_right 101 h2
        omega
      refine st_assign (d := .ws (wsOf (tx ((((deck.drop place).take sz).map fun c => runD c sz).flatten))).1 ((wsOf (tx ((((deck.drop place).take sz).map fun c => runD c sz).flatten))).2 : Nat)) o3 W
        (pe_callK (gl rfl (.inl X.ncls)) (pel_cons (pe_join (l := ((deck.drop place).take sz).map fun c => runD c sz) (PE.cast (PL.pe (pl_over (src := (deck.drop place).take sz) (f := .int) (g := fun c => .str (tx (runD c sz))) (p := fun _ => true) (CS.of hcs) (d := .list (((deck.drop place).take sz).map .int)) ?iter (.inl rfl) (by simp; omega) rfl (by decide) (fun a c₀ => ct_nil) (fun a c₀ _ _ => ?body))) ?cst) (by omega)) pel_nil) ((opn_ws X.toNFacts (by rw [show (tx _).cps.size = (tx _).length from rfl, tx_length]; exact htl)).le (by decide)) X.keepc) (st _ rfl) fun s₆ W => ?_
      case iter =>
        refine PE.cast (PL.pe (pl_slice (a := some (place : Int)) (b := some ((place + sz : Nat) : Int)) (c := none) (pe_name (d := .il deck) (by walk_at "nm")) (.some (pe_name (d := .int place) (by walk_at "nm"))) (.some (PE.cast (pe_bin (pe_name (d := .int place) (by walk_at "nm")) (pe_name (d := .int sz) (by walk_at "nm")) op_add) (by push_cast; rfl))) .none (by simp) (by simp; omega))) ?_
        rw [picks_map, picks_part deck (by omega) (by omega)]
        congr 3
        omega
      case body =>
        have h1 := hmod a
        exact PE.cast (pe_bin (PE.cast (pe_bin (pe_str (x := tx [32])) (PE.cast (d' := D.int (((a.fmod (sz : Int)).toNat : Nat) : Int)) (pe_bin (pe_name (d := .int a) (by walk_at "nm")) (pe_name (d := .int sz) (by walk_at "nm")) (op_mod (by omega))) (by congr 1; omega)) (op_muls (by omega))) rfl) (pe_str (x := tx [9])) (op_adds (by simp; omega))) rfl
      case cst =>
        rw [List.filter_eq_self.mpr (fun _ _ => rfl)]
        show D.list _ = D.list _
        rw [List.map_map]; rfl
      have hfd' : sz < fd.length := by omega
      refine sv_append (d := .bool (pcFlag deck fd place sz)) o3 W (by walk_at "nm") (PE.ev (PE.cast (pe_equal (ds := (fd.getD sz ([], 0)).1) (c := ((fd.getD sz ([], 0)).2 : Int)) X.toNFacts X.keepe (by walk_at "nm") (pe_item (i := (sz : Int)) (pe_name (d := D.wsl fd) (by walk_at "nm")) (pe_name (d := .int sz) (by walk_at "nm")) (by omega) ?it (by omega)) (by decide)) ?fl) W) H.ls (by simp; omega) (fun s₇ W => ?_) (not_interactive W.F)
      case it =>
        rw [Int.toNat_natCast, List.getElem?_map, List.getD_eq_getElem?_getD, List.getElem?_eq_getElem hfd']; rfl
      case fl =>
        congr 1
        unfold pcFlag
        rw [decide_eq_decide, Prod.ext_iff, Int.natCast_inj]
      refine st_assign o3 W (pe_bin (pe_name (d := .int place) (by walk_at "nm")) (pe_name (d := .int sz) (by walk_at "nm")) op_add) (st _ rfl) fun s₈ W => ?_
      refine st_nil ⟨by omega, _, _, _, W, place + sz, flags ++ [pcFlag deck fd place sz], by rw [hkf']; exact hpc, by omega, by omega, by simp; omega, ?_⟩
      exact ⟨by walk_at "nm", by walk_at "nm", by rw [Rho.same]; push_cast; rfl, by walk_at "nm", by rw [Lst.same]; simp, only_set H.only, ats_set (ats_set (ats_set H.ats))⟩
end
end Mine

-- part M29
namespace Mine
open PySem PySem.W PyProof.Rows

theorem sorted_unique : ∀ {a b : List Int}, a.Perm b → a.Pairwise (· ≤ ·) → b.Pairwise (· ≤ ·) → a = b
  | [], b, p, _, _ => by rw [List.nil_perm.mp p]
  | x :: a, [], p, _, _ => by have := p.length_eq; simp at this
  | x :: a, y :: b, p, ha, hb => by
    obtain ⟨h1, h2⟩ := List.pairwise_cons.mp ha
    obtain ⟨g1, g2⟩ := List.pairwise_cons.mp hb
    have hx : x ∈ y :: b := p.mem_iff.mp List.mem_cons_self
    have hy : y ∈ x :: a := p.mem_iff.mpr List.mem_cons_self
    have e : x = y := by
      rcases List.mem_cons.mp hx with e | m
      · exact e
      · rcases List.mem_cons.mp hy with e | m'
        · exact e.symm
        · exact Int.le_antisymm (h1 y m') (g1 x m)
    subst e
    rw [sorted_unique (List.perm_cons x |>.mp p) h2 g2]

def isort (l : List Int) : List Int := l.mergeSort (fun a b => decide (a ≤ b))
theorem isort_perm (l : List Int) : (isort l).Perm l := List.mergeSort_perm l _
theorem isort_sorted (l : List Int) : (isort l).Pairwise (· ≤ ·) := by
  have := List.pairwise_mergeSort (le := fun a b : Int => decide (a ≤ b)) (fun a b c h1 h2 => by simp at *; omega) (fun a b => by simp; omega) l
  exact this.imp fun h => by simpa using h

section
variable {C : Cx} {n : Nat} {A : Around} {env : Env} {own : List Addr} {s : Shared} {ρ : Rho}

theorem opn_sum {l : List Int} : OpN C n (.builtin "sum") [.il l] (.int l.sum) := by
  intro A own s vs Q E o I r k
  simp only [RepL, Rep] at r
  obtain ⟨_, _, rfl, ⟨a, us, rfl, ha, la, ru⟩, rfl⟩ := r
  have hi := RepL.il.mp ru
  obtain ⟨xs, hx⟩ := hi.allInts.items
  have hl' : s.heap.IsList a (intItems xs) := hx ▸ la
  refine sum_intListG o.handled hl' fun h' tk t' hk => ?_
  have e1 : l = xs.toList.map (·.1) := by
    rw [← nums_intItems, ← hx]
    exact (show numsOf us.toArray.toList = l from hi.numsOf).symm
  have e2 : preSum (numAt xs) xs.size = l.sum := by
    rw [preSum_eq, List.take_of_length_le (by simp), e1]
  rw [e2]
  exact k _ _ (.of_heap hk) ⟨_, rfl⟩
theorem opn_max {l : List Int} {M : Int} (hM : M ∈ l) (hle : ∀ a ∈ l, a ≤ M) : OpN C n (.builtin "max") [.il l] (.int M) := by
  intro A own s vs Q E o I r k
  simp only [RepL, Rep] at r
  obtain ⟨_, _, rfl, ⟨a, us, rfl, ha, la, ru⟩, rfl⟩ := r
  have hi := RepL.il.mp ru
  obtain ⟨xs, e⟩ := hi.allInts.items
  have hns : l = xs.toList.map (·.1) := by rw [← hi.numsOf, ← nums_intItems, ← e]
  have hsz : 0 < xs.size := by
    have h3 : 0 < l.length := List.length_pos_of_mem hM
    rw [hns, List.length_map, Array.length_toList] at h3; exact h3
  rw [e] at la
  refine max_intList o.handled la hsz fun v h' tk hv hk => ?_
  obtain ⟨t, rfl⟩ := intItems_at hv
  obtain ⟨h1, h2⟩ := argBest_gt (numAt xs) (xs.size - 1)
  refine k _ _ (.of_heap hk) ⟨t, ?_⟩
  congr 1
  refine Int.le_antisymm (hle _ ?_) ?_
  · rw [hns, numAt_eq]; exact getD_mem (by rw [List.length_map, Array.length_toList]; omega)
  · rw [hns] at hM
    obtain ⟨j, hj, rfl⟩ := mem_getD hM
    rw [List.length_map, Array.length_toList] at hj
    rw [← numAt_eq]; exact h2 j (by omega)
theorem opn_min {l : List Int} {M : Int} (hM : M ∈ l) (hle : ∀ a ∈ l, M ≤ a) : OpN C n (.builtin "min") [.il l] (.int M) := by
  intro A own s vs Q E o I r k
  simp only [RepL, Rep] at r
  obtain ⟨_, _, rfl, ⟨a, us, rfl, ha, la, ru⟩, rfl⟩ := r
  have hi := RepL.il.mp ru
  obtain ⟨xs, e⟩ := hi.allInts.items
  have hns : l = xs.toList.map (·.1) := by rw [← hi.numsOf, ← nums_intItems, ← e]
  have hsz : 0 < xs.size := by
    have h3 : 0 < l.length := List.length_pos_of_mem hM
    rw [hns, List.length_map, Array.length_toList] at h3; exact h3
  rw [e] at la
  refine min_intList o.handled la hsz fun v h' tk hv hk => ?_
  obtain ⟨t, rfl⟩ := intItems_at hv
  obtain ⟨h1, h2⟩ := argBest_lt (numAt xs) (xs.size - 1)
  refine k _ _ (.of_heap hk) ⟨t, ?_⟩
  congr 1
  refine Int.le_antisymm ?_ (hle _ ?_)
  · rw [hns] at hM
    obtain ⟨j, hj, rfl⟩ := mem_getD hM
    rw [List.length_map, Array.length_toList] at hj
    rw [← numAt_eq]; exact h2 j (by omega)
  · rw [hns, numAt_eq]; exact getD_mem (by rw [List.length_map, Array.length_toList]; omega)
theorem opn_max2 {a b : Int} : OpN C n (.builtin "max") [.int a, .int b] (.int (if b > a then b else a)) := by
  intro A own s vs Q E o I r k
  simp only [RepL, Rep] at r
  obtain ⟨_, _, rfl, ⟨t, rfl⟩, _, _, rfl, ⟨u, rfl⟩, rfl⟩ := r
  refine max_two_ints o.handled fun h' tk hk => ?_
  by_cases h : b > a
  · rw [if_pos h]; exact k _ _ (.of_heap hk) ⟨u, by rw [if_pos h]⟩
  · rw [if_neg h]; exact k _ _ (.of_heap hk) ⟨t, by rw [if_neg h]⟩
theorem opn_sorted {l : List Int} (hn : l.length < 64) : OpN C n (.builtin "sorted") [.il l] (.il (isort l)) := by
  intro A own s vs Q E o I r k
  simp only [RepL, Rep] at r
  obtain ⟨_, _, rfl, ⟨a, us, rfl, ha, la, ru⟩, rfl⟩ := r
  have hi := RepL.il.mp ru
  refine PyProof.Rows.sorted_ints la hi (by rw [ru.length]; simpa using hn) fun out ns' a1 a2 a3 => ?_
  have e : ns' = isort l := sorted_unique (a2.trans (isort_perm l).symm) a3 (isort_sorted l)
  subst e
  obtain ⟨m, hm⟩ := sortedAll_at s.heap us out
  refine k _ _ (.of_heap (tk := s.toks) fun b o e => sortedAll_old e) ?_
  simp only [Rep]
  refine ⟨_, out.toList, rfl, I.notOwn (get_ge (Nat.le_succ _)), ⟨_, hm, rfl, m, by simp⟩, RepL.il.mpr a1⟩

theorem op_pow {a b : Int} (h0 : 0 ≤ b) (h1 : b ≤ 1000000) (ha : a.natAbs < 2 ^ 64) : Op2 C n (binaryOp .Pow) (.int a) (.int b) (.int (a ^ b.toNat)) := by
  rintro A own s _ _ Q E o I ⟨t, rfl⟩ ⟨u, rfl⟩ k
  exact PyProof.Rows.pow_int_small h0 h1 ha (k _ _ (.tok _ _ _) ⟨_, rfl⟩)
theorem any_ints (l : List Int) (x : Int) : ((l.map PyData.int).any fun y => PyData.eqv y (.int x)) = decide (x ∈ l) := by
  induction l with
  | nil => simp
  | cons a l ih =>
    rw [List.map_cons, List.any_cons, ih]
    simp only [PyData.eqv, List.mem_cons]
    rw [Bool.decide_or]
    congr 1
    by_cases e : a = x
    · subst e; simp
    · simp [e, Ne.symm e]
theorem any_bools (l : List Bool) (x : Bool) : ((l.map PyData.bool).any fun y => PyData.eqv y (.bool x)) = decide (x ∈ l) := by
  induction l with
  | nil => simp
  | cons a l ih =>
    rw [List.map_cons, List.any_cons, ih]
    simp only [PyData.eqv, List.mem_cons]
    rw [Bool.decide_or]
    cases a <;> cases x <;> simp
theorem op_in {l : List Int} {x : Int} : Op2 C n (compareOp .In) (.int x) (.il l) (.bool (decide (x ∈ l))) := by
  intro A own s u v Q E o I ru rv k
  obtain ⟨as, qa⟩ := Rep.reads (.int x) rfl ru
  obtain ⟨bs, qb⟩ := Rep.reads (.il l) (by simp [D.plain, plain_ints]) rv
  simp only [D.py, pyL_ints] at qa qb
  exact SeqAt.in_list_reads qb qa (lay_ints l).1 rfl (by rw [(lay_ints l).2]; have := o.units; simp; omega) (k _ _ (.refl _ _) (by rw [any_ints]; rfl))
theorem op_notin {l : List Bool} {x : Bool} : Op2 C n (compareOp .NotIn) (.bool x) (.bl l) (.bool (!decide (x ∈ l))) := by
  intro A own s u v Q E o I ru rv k
  obtain ⟨as, qa⟩ := Rep.reads (.bool x) rfl ru
  obtain ⟨bs, qb⟩ := Rep.reads (.bl l) (by simp [D.plain, plain_bools]) rv
  simp only [D.py, pyL_bools] at qa qb
  exact SeqAt.notIn_list_reads qb qa (lay_bools l).1 rfl (by rw [(lay_bools l).2]; have := o.units; simp; omega) (k _ _ (.refl _ _) (by rw [any_bools]; rfl))
end
end Mine

-- part M30
namespace Mine
open PySem PySem.W PyProof.Rows

theorem lookup_relabel_keep {env : Env} {k : NameKind} (hk : k ≠ .free) : ∀ {names : List (Str × NameKind)} {x : Str}, names.lookup x = some k →
    (names.map fun (n, k) => if (k == NameKind.free && env.scope.kind == .function && env.kindOf n == some .cell) then (n, NameKind.cell) else (n, k)).lookup x = some k
  | [], _, h => by simp at h
  | (n, k') :: r, x, h => by
    have ih := @lookup_relabel_keep env k hk r x
    rw [List.map_cons]
    cases hx : x == n with
    | true =>
      simp only [List.lookup_cons, hx] at h
      cases h
      have : (k == NameKind.free) = false := by simpa using hk
      simp [List.lookup_cons, hx, this]
    | false =>
      simp only [List.lookup_cons, hx] at h
      dsimp only
      split <;> (simp only [List.lookup_cons, hx]; exact ih h)
theorem comp_global {env : Env} {scope : Scope} {cl : List (Str × Addr)} {c₀ : Addr} {x : Str} (hx : scope.names.lookup x = some .globalImplicit) : (compEnvC scope cl c₀ env).kindOf x = some .globalImplicit := lookup_relabel_keep (by decide) hx

section
variable {C : Cx} {n m : Nat} {A : Around} {env : Env} {own : List Addr} {s : Shared} {ρ : Rho}

/-- list + list -/
theorem pl_cat {e1 e2 : Expr} {pos : Pos} {a b : List D} (h1 : PL C n env ρ e1 a) (h2 : PL C n env ρ e2 b) (hn : a.length + b.length < 2 ^ 20) : PL C n env ρ (.BinOp e1 .Add e2 pos) (a ++ b) := by
  intro own lst s I F A Q E o kk
  refine wpAny_BinOp (h1 own lst s I F A _ _ o fun x us s₁ x₁ n₁ p1 r1 => h2 own lst s₁ (I.x0 x₁) (F.x0 x₁) A _ _ o fun y ws s₂ x₂ n₂ p2 r2 => ?_)
  obtain ⟨k1, q1⟩ := p1
  obtain ⟨k2, q2⟩ := p2
  refine PySem.P.add_list (n := k1) (n2 := k2) (x₂.keeps _ _ q1) q2 ?_ (by simp only [List.size_toArray, r1.length, r2.length, sizeLine_eq]; omega)
  refine kk _ (us ++ ws) _ ((x₁.trans x₂).trans (.push _ s₂ _ s₂.toks)) (x₁.dead (x₂.dead get_size)) ⟨0, ?_⟩ ?_
  · rw [Heap.get?_push_size _ rfl]; simp
  · have rr : RepL C s₂.heap own (us ++ ws) (a ++ b) := ((r1.keeps x₂.keeps).less fun b m => List.mem_cons_of_mem _ m).append (r2.less fun b m => List.mem_cons_of_mem _ m)
    exact (rr.fresh (l := [s₂.heap.objs.size]) fun b m => by rw [List.mem_singleton.mp m]; exact get_size).keeps fun b o e => Heap.get?_push_of_some _ e
/-- [e] * k -/
theorem pl_mul1 {e1 e2 : Expr} {pos : Pos} {d : D} {k : Int} (h1 : PL C n env ρ e1 [d]) (h2 : PE C n env ρ e2 (.int k)) (h0 : 0 ≤ k) (hk : k ≤ 2 ^ 20) : PL C n env ρ (.BinOp e1 .Mult e2 pos) (List.replicate k.toNat d) := by
  intro own lst s I F
  exact el_mul1 (h1 own lst s I F) (fun s' x => PE.ev h2 (Fw.here (I.x0 x) (F.x0 x))) h0 hk
theorem PL.cast {e : Expr} {a b : List D} (h : PL C n env ρ e a) (q : a = b) : PL C n env ρ e b := q ▸ h
theorem PL.le {e : Expr} {a : List D} (h : PL C n env ρ e a) (l : n ≤ m) : PL C m env ρ e a := fun own lst s I F A Q E o => h own lst s I F A Q E (o.le l)
theorem PEL.le {es : List Expr} {ds : List D} (h : PEL C n env ρ es ds) (l : n ≤ m) : PEL C m env ρ es ds := fun pos A own lst s Q E o => h pos A own lst s Q E (o.le l)

-- the two-clause comprehension
theorem LoopRule.two {elt t0 i0 t1 i1 : Expr} {scope : Scope} {pos : Pos} {I Dl : Addr} (ht : ∀ v, letOwnedTupleGo t1 (.ref I) v = pure ()) :
    LoopRule C A env (.compLoop (.ListComp elt [⟨t0, i0, [], 0⟩, ⟨t1, i1, [], 0⟩] scope pos) 1 (.ref I) (.ref Dl) env) t1 elt [] I Dl := by
  intro R s Inv turn n h
  refine codeAny_loop rfl Inv (fun n s hI => ?_) n h
  show wpAny _ A ((compTurn (.ListComp elt [⟨t0, i0, [], 0⟩, ⟨t1, i1, [], 0⟩] scope pos) 1 (.ref I) (.ref Dl) env).onRaise (fun x => do noteFrame x env; theTreesLotGoes x)) _ _ s
  refine wpAny_noted ?_
  show wpAny _ A (standAt i1.pos >>= _) _ _ s
  refine wpAny_bind (wpAny_standAt (wpAny_bind (wpAny_mono (turn n s hI) (fun r s₁ h₁ => ?_) fun _ _ h' => h')))
  cases r with
  | none => exact wpAny_pure h₁
  | some v =>
    refine wpAny_bind (wpAny_of_eq (ht v) ?_)
    refine wpAny_bind (wpAny_mono h₁ (fun _ s₂ h₂ => wpAny_bind (wpAny_mono h₂ (fun ok s₃ h₃ => ?_) fun _ _ h' => h')) fun _ _ h' => h')
    cases ok with
    | false => exact wpAny_pure ⟨rfl, h₃⟩
    | true =>
      exact wpAny_bind (wpAny_bind (wpAny_mono h₃ (fun x s₄ h₄ => wpAny_bind (wpAny_mono h₄ (fun _ s₅ h₅ => wpAny_pure (wpAny_pure ⟨rfl, h₅⟩)) fun _ _ h' => h')) fun _ _ h' => h'))

theorem compStart_two {elt t0 i0 t1 i1 : Expr} {scope : Scope} {pos : Pos} {it acc : Value} {R : Result → Shared → Prop}
    (h0 : codeAny C.M A (.compLoop (.ListComp elt [⟨t0, i0, [], 0⟩, ⟨t1, i1, [], 0⟩] scope pos) 1 it acc env) R s)
    (h : wpAny C.M A (pyIter it) (fun it' s' => codeAny C.M A (.compLoop (.ListComp elt [⟨t0, i0, [], 0⟩, ⟨t1, i1, [], 0⟩] scope pos) 1 it' acc env) R s') (notedBy C.M A env fun x s' => R (.error x) s') s) :
    codeAny C.M A (.compStart (.ListComp elt [⟨t0, i0, [], 0⟩, ⟨t1, i1, [], 0⟩] scope pos) 1 it acc env) R s := by
  refine codeAny_of_tree ?_
  show wpAny _ _ ((compStart (.ListComp elt [⟨t0, i0, [], 0⟩, ⟨t1, i1, [], 0⟩] scope pos) 1 it acc env).onRaise (fun x => do noteFrame x env; standAt theWindowsPlace)) _ _ s
  refine wpAny_notedAt ?_
  unfold compStart
  show wpAny _ _ (ask >>= _) _ _ s
  refine wpAny_bind (wpAny_askSetting (wpAny_ite ?_))
  split
  · first
      | exact wpAny_bind (wpAny_pure (wpAny_pure (And.intro rfl h0)))
      | exact wpAny_pure (And.intro rfl h0)
  · first
      | exact wpAny_bind (wpAny_rule (wpAny_bind (wpAny_standAt (wpAny_bind (wpAny_mono h (fun it' s' h' => wpAny_pure (And.intro rfl h')) fun _ _ x => x)))))
      | (refine wpAny_bind (wpAny_rule ?_); show wpAny _ _ (standAt i1.pos >>= _) _ _ s; exact wpAny_bind (wpAny_standAt (wpAny_bind (wpAny_mono h (fun it' s' h' => wpAny_pure (And.intro rfl h')) fun _ _ x => x))))

theorem outer_two {elt t0 i0 t1 i1 : Expr} {scope : Scope} {pos : Pos} {I Dl : Addr} {R : Result → Shared → Prop} (Inv : Nat → Shared → Prop) (ht : ∀ v, letOwnedTupleGo t0 (.ref I) v = pure ()) (hs : ∀ x, foldedSetIterable i1 env x = pure x)
    (turn : ∀ n s, Inv n s → wpAny C.M A (pyNext (.ref I)) (fun r s₁ => match r with
      | none => R (.ok .next) s₁
      | some v => wpAny C.M A (assign t0 env v) (fun _ s₂ => wpAny C.M A (eval i1 env) (fun x s₃ => wpAny C.M A (pyIter x) (fun it1 s₄ =>
          codeAny C.M A (.compStart (.ListComp elt [⟨t0, i0, [], 0⟩, ⟨t1, i1, [], 0⟩] scope pos) 1 it1 (.ref Dl) env) (fun r s₅ => r = .ok .next ∧ ∃ m, m < n ∧ Inv m s₅) s₄) (fun _ _ => False) s₃) (fun _ _ => False) s₂) (fun _ _ => False) s₁) (fun _ _ => False) s)
    (n : Nat) (h : Inv n s) : codeAny C.M A (.compLoop (.ListComp elt [⟨t0, i0, [], 0⟩, ⟨t1, i1, [], 0⟩] scope pos) 0 (.ref I) (.ref Dl) env) R s := by
  refine codeAny_loop rfl Inv (fun n s hI => ?_) n h
  show wpAny _ A ((compTurn (.ListComp elt [⟨t0, i0, [], 0⟩, ⟨t1, i1, [], 0⟩] scope pos) 0 (.ref I) (.ref Dl) env).onRaise (fun x => do noteFrame x env; theTreesLotGoes x)) _ _ s
  refine wpAny_noted ?_
  show wpAny _ A (standAt i0.pos >>= _) _ _ s
  refine wpAny_bind (wpAny_standAt (wpAny_bind (wpAny_mono (turn n s hI) (fun r s₁ h₁ => ?_) fun _ _ h' => h'.elim)))
  cases r with
  | none => exact wpAny_pure h₁
  | some v =>
    refine wpAny_bind (wpAny_of_eq (ht v) ?_)
    refine wpAny_bind (wpAny_mono h₁ (fun _ s₂ h₂ => wpAny_bind (wpAny_tests_nil ?_)) fun _ _ h' => h'.elim)
    refine wpAny_bind (wpAny_mono h₂ (fun x s₃ h₃ => wpAny_bind (wpAny_standAt (wpAny_bind (wpAny_of_eq (hs x) (wpAny_bind (wpAny_holding (wpAny_mono h₃ (fun it1 s₄ h₄ => ?_) fun _ _ h' => h'.elim))))))) fun _ _ h' => h'.elim)
    refine wpAny_bind (wpAny_runOwn (codeAny_mono h₄ fun r s₅ h₅ => ?_))
    obtain ⟨rfl, h₅⟩ := h₅
    exact wpAny_pure ⟨rfl, h₅⟩
end
end Mine

-- part M30b
namespace Mine
open PySem PySem.W PyProof.Rows

/-- a comprehension that is pure, with whatever is done to its list -/
def CompOK (C : Cx) (m : Nat) (env : Env) (ρ : Rho) (elt : Expr) (gens : List Comprehension) (scope : Scope) (pos : Pos) (ds : List D) : Prop :=
  ∀ (own : List Addr) (lst : Lst) (s : Shared) (A : Around) (Q E : Value → Shared → Prop) (use : Option (Value → Sem Unit)), Ok m A → Inv C s own → Frm C env s.heap own ρ lst →
    (∀ c₀ a us s₁, s.heap.get? c₀ = none → c₀ ≠ a → Left C no s (c₀ :: own) a us ds s₁ → (∃ m, s₁.heap.Ns c₀ m) → compPost C.M A E use Q (.ref a) c₀ (.ok .next) s₁) →
    wpAny C.M A (comprehension (.ListComp elt gens scope pos) scope env (firstIterPos gens pos) (newList []) false (firstIter gens env) use) Q E s

section
variable {C : Cx} {m : Nat} {env : Env} {ρ : Rho} {A : Around} {B : Org} {own : List Addr} {s : Shared} {lst : Lst} {rest : List Stmt} {Q : Flow → Shared → Prop} {E : Value → Shared → Prop}
theorem CompOK.cast {elt : Expr} {gens : List Comprehension} {scope : Scope} {pos : Pos} {ds ds' : List D} (h : CompOK C m env ρ elt gens scope pos ds) (q : ds = ds') : CompOK C m env ρ elt gens scope pos ds' := q ▸ h
theorem CompOK.pl {elt : Expr} {gens : List Comprehension} {scope : Scope} {pos : Pos} {ds : List D} (h : CompOK C m env ρ elt gens scope pos ds) (ha : firstAsync gens = false := by rfl) : PL C m env ρ (.ListComp elt gens scope pos) ds := by
  intro own lst s I F A Q E o k
  rw [eval_ListComp, ha]
  refine h own lst s A Q E none o I F fun c₀ a us s₁ n₀ hne L hm => ?_
  obtain ⟨mm, hm⟩ := hm
  refine ⟨mm, hm, fun h' sb => k a us _ (L.x.same n₀ sb) L.n (L.p.at fun o e => (sb.2 a (Ne.symm hne)).trans e) ?_⟩
  exact L.r.move _ (fun b o hb e => (sb.2 b (fun z => hb (by simp [z]))).trans e) fun b m => .inl (by
    rcases List.mem_cons.mp m with rfl | m
    · simp
    · simp [m])
/-- x = [..], where the stores change places -/
theorem CompOK.st {x : Str} {px spos : Pos} {elt : Expr} {gens : List Comprehension} {scope : Scope} {pos : Pos} {ds : List D} (h : CompOK C m env ρ elt gens scope pos ds) (o : Ok m A) (W : Fw C env B s own ρ lst) (hx : Stores env x)
    (k : ∀ s', Fw C env B s' own (ρ.set x (.cl (.list ds))) lst → wpAny C.M A (execs rest env) Q E s')
    (hsw : swapsWith (.ListComp elt gens scope pos) (some (.Name x px)) spos.line env = pure true) (ha : firstAsync gens = false := by rfl) :
    wpAny C.M A (execs (.Assign [.Name x px] (.ListComp elt gens scope pos) spos :: rest) env) Q E s := by
  refine wpAny_execs_cons ?_
  rw [exec_Assign_Name_used _ _ _ _ hsw]
  refine wpAny_bind (wpAny_standAt (wpAny_bind ?_))
  show wpAny C.M A (do let _ ← comprehension (.ListComp elt gens scope pos) scope env _ (newList []) (firstAsync gens) (firstIter gens env) (some (assign (.Name x px) env))) _ _ s
  rw [ha]
  refine wpAny_bind (wpAny_mono (Q := fun _ s' => wpAny C.M A (execs rest env) Q E s') ?_ (fun _ s' hq => wpAny_pure (wpAny_pure hq)) fun _ _ e => e)
  refine h own lst s A _ E _ o W.I W.F fun c₀ a us s₁ n₀ hne L hm => ?_
  obtain ⟨mm, hm⟩ := hm
  have lc : ∃ o, s₁.heap.get? c₀ = some o := let ⟨o, _, _, e, _⟩ := hm; ⟨o, e⟩
  have W₁ := W.add L.x n₀ lc
  have ns : ¬ slots env lst c₀ := fun z => by
    obtain ⟨o, e⟩ := W.I.live c₀ (W.slotOwn z); rw [n₀] at e; cases e
  have na : a ∉ c₀ :: own := fun z => by
    rcases List.mem_cons.mp z with z | z
    · exact hne z.symm
    · obtain ⟨o, e⟩ := W.I.live a z; rw [L.n] at e; cases e
  have rr : Rep C s₁.heap (c₀ :: own) (.ref a) (.list ds) := by
    simp only [Rep]
    exact ⟨a, us, rfl, na, L.p.isList, L.r.less fun b m => List.mem_cons_of_mem _ m⟩
  refine wpAny_assign_Name (store_name (p := .cl (.list ds)) W₁.rebase hx rr fun s₂ W₂ => ?_)
  refine ⟨mm, hm.at' fun o e => W₂.x.keep _ o ns e, fun h' sb => ?_⟩
  have W₃ := W₁.join W₂
  refine k _ ?_
  have hd : B.s.heap.get? c₀ = none := W.x.dead n₀
  refine ⟨⟨fun b o e => (sb.2 b (fun z => by
      have := W₁.I.off c₀ List.mem_cons_self
      rw [← z, e] at this; cases this)).trans (W₃.I.top b o e), fun b m => ?_, W.I.off⟩, ?_, ⟨fun b o hb e => (sb.2 b (fun z => by (rw [z, hd] at e; cases e))).trans (W₃.x.keep b o hb e), fun b o e => ?_, W₃.x.os, W₃.x.gens, W₃.x.bare⟩, W.new, W.grow, W.incl⟩
  · obtain ⟨o, e⟩ := W₃.I.live b (List.mem_cons_of_mem _ m)
    refine ⟨o, (sb.2 b (fun z => ?_)).trans e⟩
    obtain ⟨o, e⟩ := W.I.live b m
    rw [z, n₀] at e; cases e
  · refine W₃.F.offS (a := c₀) List.mem_cons_self (fun z => ns (.inl z.symm)) (fun n c e z => ns (.inr (.inl ⟨n, z ▸ e⟩))) (fun y b e z => ?_) (fun b ds e z => ns (.inr (.inr ⟨ds, z ▸ e⟩))) (fun b o z e => (sb.2 b z).trans e) (fun b m => List.mem_cons_of_mem _ m) fun b m z => (List.mem_cons.mp m).resolve_left z
    unfold Rho.set at e
    split at e
    · cases e
    · obtain ⟨v, _, _, q, _⟩ := W.F.get y _ e
      obtain ⟨o, e⟩ := W.I.live b q
      rw [z, n₀] at e; cases e
  · obtain ⟨o', e'⟩ := W₃.x.live b o e
    exact ⟨o', (sb.2 b (fun z => by (rw [z, hd] at e; cases e))).trans e'⟩

/-- one clause over a list of data -/
theorem co_over {α : Type} {x : Str} {px : Pos} {elt iter : Expr} {ifs : List Expr} {scope : Scope} {cl : List (Str × Addr)} {fr : List Str} {pos : Pos} {d : D} {src : List α} {f g : α → D} {p : α → Bool} (S : CS env scope cl fr) (he : PE C m env ρ iter d)
    (hd : d = .list (src.map f) ∨ d = .tuple (src.map f) ∨ ∃ a c, d = .rng a c src.length ∧ ∀ i v, src[i]? = some v → f v = .int (a + (i : Nat) * c)) (hn : src.length < 2 ^ 20) (hx : scope.names.lookup x = some .local) (hxf : fr.contains x = false)
    (test : ∀ a c₀, a ∈ src → CT C m (compEnvC scope cl c₀ env) ((ρ.only fr).set x (.cl (f a))) ifs (p a))
    (body : ∀ a c₀, a ∈ src → p a = true → PE C m (compEnvC scope cl c₀ env) ((ρ.only fr).set x (.cl (f a))) elt (g a))
    (hs : ∀ x, foldedSetIterable iter env x = pure x := by intro _; rfl) : CompOK C m env ρ elt [⟨.Name x px, iter, ifs, 0⟩] scope pos ((src.filter p).map g) := by
  intro own lst s A Q E use o I F k
  have get : ∀ i, i < src.length → ∃ a, src[i]? = some a ∧ a ∈ src := fun i hi => ⟨src[i], List.getElem?_eq_getElem hi, List.getElem_mem hi⟩
  refine comp_block (lst := lst) (J := fun _ l => l = lst) (ch := no) (dat := fun i => (src[i]?.map f).getD .none) (g := fun i => (src[i]?.map g).getD .none) (tst := fun i => (src[i]?.map p).getD false) (ρc := fun i => (ρ.only fr).set x (.cl ((src[i]?.map f).getD .none))) (n := src.length) (d := d) o (Fw.here I F) S (he.ev (Fw.here I F)) ?_ hn (fun _ h => h.elim)
    (fun i l b ds j e => by subst j; exact (F.lst b ds e).1) rfl (fun i => only_none hxf) (fun c₀ i hi => ca_name (comp_local hx)) (fun c₀ i hi => ?_) (fun _ _ _ _ j => j) (fun c₀ i hi ht => PE.ce ?_) (fun c₀ a us s₁ lst' n₀ hne L hm _ _ => ?_) hs (fun _ _ => rfl)
  · rcases hd with rfl | rfl | ⟨a, c, rfl, h⟩
    · exact .list (by simp) fun i d e => by simp at e; obtain ⟨a, e1, e2⟩ := e; simp [e1, e2]
    · exact .tuple (by simp) fun i d e => by simp at e; obtain ⟨a, e1, e2⟩ := e; simp [e1, e2]
    · exact .rng fun i hi => by obtain ⟨v, e, _⟩ := get i hi; simp only [e, Option.map_some, Option.getD_some]; exact h i v e
  · obtain ⟨a, e, hm⟩ := get i hi
    simp only [e, Option.map_some, Option.getD_some]
    exact test a c₀ hm
  · obtain ⟨a, e, hm⟩ := get i hi
    simp only [e, Option.map_some, Option.getD_some] at ht ⊢
    exact body a c₀ hm ht
  · rw [outs_over src p g src.length (Nat.le_refl _), List.take_length] at L
    exact k c₀ a us s₁ n₀ hne L hm
end
end Mine

-- part M31
namespace Mine
open PySem PySem.W PyProof.Rows

section
variable {C : Cx} {env : Env} {ρ : Rho} {A : Around} {m : Nat}

/-- [elt for x in src for y in x], all pure -/
theorem co_two {α : Type} {x y : Str} {px py : Pos} {elt i0 i1 : Expr} {scope : Scope} {cl : List (Str × Addr)} {fr : List Str} {pos : Pos} {src : List (List α)} {f g : α → D} (S : CS env scope cl fr) (he : PE C m env ρ i0 (.list (src.map fun l => .list (l.map f))))
    (hn : src.flatten.length + src.length < 2 ^ 20) (hx : scope.names.lookup x = some .local) (hy : scope.names.lookup y = some .local) (hxf : fr.contains x = false) (hyf : fr.contains y = false)
    (inner : ∀ l c₀, l ∈ src → PE C m (compEnvC scope cl c₀ env) ((ρ.only fr).set x (.cl (.list (l.map f)))) i1 (.list (l.map f)))
    (hyx : (x == y) = false) (body : ∀ (l : List α) a c₀, PE C m (compEnvC scope cl c₀ env) (((ρ.only fr).set x (.cl (.list (l.map f)))).set y (.cl (f a))) elt (g a))
    (hs : ∀ x, foldedSetIterable i0 env x = pure x := by intro _; rfl) (hs1 : ∀ c₀ x, foldedSetIterable i1 (compEnvC scope cl c₀ env) x = pure x := by intro _ _; rfl) :
    CompOK C m env ρ elt [⟨.Name x px, i0, [], 0⟩, ⟨.Name y py, i1, [], 0⟩] scope pos (src.flatten.map g) := by
  intro own lst s A Q E use o I0 F0 kk
  refine wpAny_comprehension_free rfl hs S.clos S.kind S.names ?_
  show wpAny C.M A (eval i0 env) _ E s
  have W := Fw.here I0 F0
  refine he.use o W fun v s₁ x₁ r₁ => ?_
  have W₁ := W.x0 x₁
  refine src_iter (n := src.length) (dat := fun i => (src[i]?.map fun l => D.list (l.map f)).getD .none) o.handled W₁.I r₁ (.list (by simp) fun i d e => by simp at e; obtain ⟨l, e1, e2⟩ := e; simp [e1, e2]) fun a s₂ St x₂ n₂ l₂ Sr st₂ => ?_
  refine wpAny_newObj_type (wpAny_newFunctionEnv S.cell (by intro y hy; simp at hy) (fun h₁ hns₁ hsb₁ => ?_) S.kind)
  dsimp only at hns₁ hsb₁ ⊢
  generalize hH2 : s₂.heap.push { cls := .type "list", dict := none, data := .seq ([] : List Value).toArray } = H2 at hns₁ hsb₁ ⊢
  have hL : H2.objs.size = s₂.heap.objs.size + 1 := by rw [← hH2, Heap.size_push]
  generalize hLL : H2.objs.size = L at hL hns₁ hsb₁ ⊢
  generalize hDD : s₂.heap.objs.size = Dl at hL ⊢
  have nD : s₂.heap.get? Dl = none := by rw [← hDD]; exact get_size
  have nL : s₂.heap.get? L = none := get_ge (by rw [hL, hDD]; exact Nat.le_succ _)
  have hDL : Dl ≠ L := by rw [hL]; exact Nat.ne_of_lt (Nat.lt_succ_self _)
  have n2 : ∀ b o, s₂.heap.get? b = some o → b ≠ Dl ∧ b ≠ L := fun b o e => ⟨fun z => by (rw [z, nD] at e; cases e), fun z => by (rw [z, nL] at e; cases e)⟩
  have old : ∀ b o, s₂.heap.get? b = some o → h₁.get? b = some o := fun b o e => hsb₁.extBut b o (n2 b o e).2 (Heap.get?_push_of_some _ (hH2 ▸ Heap.get?_push_of_some _ e))
  have hacc : h₁.PlainList Dl #[] := ⟨_, hsb₁.extBut _ _ hDL (Heap.get?_push_of_some _ (by rw [← hH2, ← hDD]; exact Heap.get?_push_size _ rfl))⟩
  have lL : ∃ o, h₁.get? L = some o := let ⟨o, _, _, e, _⟩ := hns₁; ⟨o, e⟩
  have x₃ : XB no s₂ { s₂ with heap := h₁, toks := s₂.toks + ([] : List (Str × Value)).length } := .of_heap old
  generalize hs₃ : ({ s₂ with heap := h₁, toks := s₂.toks + ([] : List (Str × Value)).length } : Shared) = s₃ at x₃
  have hh₃ : s₃.heap = h₁ := by rw [← hs₃]
  have W₂ := W₁.add x₂ n₂ l₂
  have ne_own : ∀ b ∈ a :: own, b ≠ Dl ∧ b ≠ L := fun b m => let ⟨o, e⟩ := W₂.I.live b m; n2 b o e
  have ne_a : ∀ b ∈ own, b ≠ a := fun b m z => by obtain ⟨o, e⟩ := W₁.I.live b m; rw [z, n₂] at e; cases e
  have haD : a ≠ Dl := (ne_own a List.mem_cons_self).1
  have haL : a ≠ L := (ne_own a List.mem_cons_self).2
  have fr3 : ∀ b ∈ [L, Dl], s₂.heap.get? b = none := fun b m => by
    rcases List.mem_cons.mp m with rfl | m
    · exact nL
    · rw [List.mem_singleton.mp m]; exact nD
  have lD : ∃ o, h₁.get? Dl = some o := let ⟨_, e⟩ := hacc; ⟨_, e⟩
  have I₃ : Inv C s₃ ([L, Dl] ++ (a :: own)) := by
    refine ⟨(W₂.I.x0 x₃).top, fun b m => ?_, fun b m => ?_⟩
    · rcases List.mem_append.mp m with m | m
      · rw [hh₃]
        rcases List.mem_cons.mp m with rfl | m
        · exact lL
        · rw [List.mem_singleton.mp m]; exact lD
      · exact (W₂.I.x0 x₃).live b m
    · rcases List.mem_append.mp m with m | m
      · exact W₂.I.new (fr3 b m)
      · exact W₂.I.off b m
  have F₃ : Frm C env s₃.heap ([L, Dl] ++ (a :: own)) ρ lst := (W₂.F.more fr3).x0 x₃
  have cne : ∀ n c, env.cells.lookup n = some c → c ≠ Dl ∧ c ≠ L ∧ c ≠ a := fun n c e => ⟨(ne_own c (W₂.F.cown n c e)).1, (ne_own c (W₂.F.cown n c e)).2, ne_a c (W.F.cown n c e)⟩
  have Fi : Frm C (compEnvC scope cl L env) s₃.heap ([L, Dl] ++ (a :: own)) (ρ.only fr) lst := F₃.inner S List.mem_cons_self (by rw [hh₃]; exact ⟨_, hns₁⟩) fun n c e => (cne n c e).2.1
  have st₃ : St ([L, Dl] ++ (a :: own)) 0 s₃.heap := Sr.frame _ _ _ _ _ st₂ (fun b o _ e => x₃.keeps b o e) (fun b m => (List.mem_append.mp m).elim (fun m => .inr (fr3 b m)) .inl) fun b m => List.mem_append_right _ m
  have hρ : ∀ z b, (ρ.only fr) z = some (.at b) → b ∈ own := fun z b e => by
    unfold Rho.only at e
    split at e
    · obtain ⟨v, _, z⟩ := W.F.get z _ e
      exact z.2.1
    · cases e
  have hlst : ∀ b ds, lst b = some ds → b ∈ own := fun b ds e => (F0.lst b ds e).1
  have nown : ∀ b ∈ own, b ≠ Dl ∧ b ≠ a ∧ b ≠ L := fun b m => ⟨(ne_own b (List.mem_cons_of_mem _ m)).1, ne_a b m, (ne_own b (List.mem_cons_of_mem _ m)).2⟩
  clear hs₃ hsb₁ hH2 hLL hDD hL
  generalize hcv : compEnvC scope cl L env = cenv at Fi
  have hcl : cenv.locals = L := by rw [← hcv]; rfl
  generalize hown : [L, Dl] ++ (a :: own) = ow at I₃ F₃ Fi st₃
  have mL : L ∈ ow := by rw [← hown]; simp
  have mD : Dl ∈ ow := by rw [← hown]; simp
  have ma : a ∈ ow := by rw [← hown]; simp
  have loop : codeAny C.M A (.compLoop (.ListComp elt [⟨.Name x px, i0, [], 0⟩, ⟨.Name y py, i1, [], 0⟩] scope pos) 0 (.ref a) (.ref Dl) cenv) (compPost C.M A E use Q (.ref Dl) L) s₃ := by
    refine outer_two (fun j s' => ∃ i vs, i ≤ src.length ∧ j = src.length - i ∧ XB (fun b => b = a ∨ b = Dl ∨ b = L) s₃ s' ∧ Inv C s' ow ∧ Frm C cenv s'.heap ow (ρ.only fr) lst ∧ s'.heap.PlainList Dl (List.toArray vs) ∧ RepL C s'.heap ow vs (((src.take i).flatten).map g) ∧ St ow i s'.heap) (fun _ => rfl) (by rw [← hcv]; exact hs1 L) (fun j s' hJ => ?_) src.length
      ⟨0, [], Nat.zero_le _, rfl, .refl _ _, I₃, Fi, by rw [hh₃]; exact hacc, by simp [RepL], st₃⟩
    obtain ⟨i, vs, hi, rfl, X, I', F', p', r', st'⟩ := hJ
    by_cases hlt : i < src.length
    · refine Sr.item ow i _ _ _ hlt ma st' fun v h' tk st1 up rv => ?_
      dsimp only
      have hget : src[i]? = some src[i] := List.getElem?_eq_getElem hlt
      simp only [hget, Option.map_some, Option.getD_some] at rv
      generalize hl : src[i] = l at rv
      have upo : ∀ b o, b ∉ ow → s'.heap.get? b = some o → h'.get? b = some o := fun b o n e => up b o (fun z => n (z ▸ ma)) e
      have la : ∃ o, h'.get? a = some o := let ⟨o, _, e, _⟩ := Sr.isf _ _ _ st1; ⟨o, e⟩
      have y1 : XB (one a) s' { s' with heap := h', toks := tk } := ⟨fun b o hb e => up b o hb e, fun b o e => by
        by_cases z : b = a
        · rw [z]; exact la
        · exact ⟨o, up b o z e⟩, rfl, fun _ _ e => e, id⟩
      have I1 : Inv C { s' with heap := h', toks := tk } ow := I'.xb y1 (by rintro b rfl; exact ma)
      have cna : ∀ n c, cenv.cells.lookup n = some c → c ≠ a ∧ c ≠ Dl := fun n c e => by
        have := S.sub n c (by rw [← hcv] at e; exact e)
        exact ⟨(cne n c this).2.2, (cne n c this).1⟩
      have F1 : Frm C cenv h' ow (ρ.only fr) lst := F'.offS ma (by rw [hcl]; exact haL.symm) (fun n c e => (cna n c e).1) (fun z b e => (nown b (hρ z b e)).2.1) (fun b ds e => (nown b (hlst b ds e)).2.1) up (fun _ m => m) fun _ m _ => m
      have p1 : h'.PlainList Dl (List.toArray vs) := p'.at fun o e => up Dl o (Ne.symm haD) e
      have r1 : RepL C h' ow vs (((src.take i).flatten).map g) := r'.move _ upo fun _ m => .inl m
      refine ca_name (C := C) (A := A) (d := .list (l.map f)) (by rw [← hcv]; exact comp_local hx) ow lst _ v _ _ I1 F1 rv fun s2 x2 F2 => ?_
      rw [hcl] at x2
      have I2 := I1.xb x2 (by rintro b rfl; exact mL)
      refine (by rw [← hcv]; exact inner l L (by rw [← hl]; exact List.getElem_mem hlt) : PE C m cenv ((ρ.only fr).set x (.cl (.list (l.map f)))) i1 (.list (l.map f))) A ow lst s2 _ _ o I2 F2 fun v3 s3 x3 r3 => ?_
      have I3' := I2.x0 x3
      have F3 := F2.x0 x3
      refine src_iter (n := l.length) (dat := fun j => (l[j]?.map f).getD .none) o.handled I3' r3 (.list (by simp) fun j d e => by simp at e; obtain ⟨q, e1, e2⟩ := e; simp [e1, e2]) fun b s4 St1 x4 n4 l4 Sr1 st4 => ?_
      have I4 := I3'.cons n4 x4 l4
      have F4 : Frm C cenv s4.heap (b :: ow) ((ρ.only fr).set x (.cl (.list (l.map f)))) lst := (F3.more (l := [b]) (by intro c m; rw [List.mem_singleton.mp m]; exact n4)).x0 x4
      have neb : ∀ c ∈ ow, c ≠ b := fun c m z => by obtain ⟨o, e⟩ := I3'.live c m; rw [z, n4] at e; cases e
      have x14 : XB (one L) { s' with heap := h', toks := tk } s4 := (x2.trans x3.nil).trans x4.nil
      have p4 : s4.heap.PlainList Dl (List.toArray vs) := p1.at fun o e => x14.keep Dl o hDL e
      have up4 : ∀ c o, c ∉ ow → h'.get? c = some o → s4.heap.get? c = some o := fun c o hc e => x14.keep c o (fun z => hc (z ▸ mL)) e
      have dead4 : h'.get? b = none := x2.dead (x3.dead n4)
      have r4 : RepL C s4.heap (b :: ow) vs (((src.take i).flatten).map g) := r1.move _ (fun c o hc e => up4 c o (fun z => hc z) e) fun c m => (List.mem_cons.mp m).elim (fun z => .inr (z ▸ dead4)) .inl
      have hlen : (((src.take i).flatten).map g).length + l.length < 2 ^ 20 := by
        have h1 : (src.take (i + 1)).flatten.length ≤ src.flatten.length := by
          have : src.flatten = (src.take (i + 1)).flatten ++ (src.drop (i + 1)).flatten := by rw [← List.flatten_append, List.take_append_drop]
          rw [this, List.length_append]; omega
        rw [List.take_succ_eq_append_getElem hlt, List.flatten_append, List.length_append, hl] at h1
        simp only [List.flatten_cons, List.flatten_nil, List.append_nil] at h1
        rw [List.length_map]
        omega
      have key : codeAny C.M A (.compLoop (.ListComp elt [⟨.Name x px, i0, [], 0⟩, ⟨.Name y py, i1, [], 0⟩] scope pos) 1 (.ref b) (.ref Dl) cenv) (fun r s₅ => r = .ok .next ∧ ∃ m, m < src.length - i ∧ ∃ i vs, i ≤ src.length ∧ m = src.length - i ∧ XB (fun b => b = a ∨ b = Dl ∨ b = L) s₃ s₅ ∧ Inv C s₅ ow ∧ Frm C cenv s₅.heap ow (ρ.only fr) lst ∧ s₅.heap.PlainList Dl (List.toArray vs) ∧ RepL C s₅.heap ow vs (((src.take i).flatten).map g) ∧ St ow i s₅.heap) s4 := by
        refine comp_loop (target := .Name y py) (ifs := []) (acc := ((src.take i).flatten).map g) (vs₀ := vs) (own := b :: ow) (lst := lst) (n := l.length) (ρ₀ := (ρ.only fr).set x (.cl (.list (l.map f)))) (ρc := fun j => ((ρ.only fr).set x (.cl (.list (l.map f)))).set y (.cl ((l[j]?.map f).getD .none))) (J := fun _ q => q = lst) (ch := no) (g := fun j => (l[j]?.map g).getD .none) (tst := fun j => (l[j]?.map fun _ => true).getD false)
          (.two fun _ => rfl) o Sr1 hlen List.mem_cons_self (List.mem_cons_of_mem _ mD) (Ne.symm (neb Dl mD)) (by rw [hcl]; exact Ne.symm (neb L mL)) (by rw [hcl]; exact hDL) (fun _ h => h.elim) (fun n c e => ⟨(cna n c e).2, neb c (F3.cown n c e)⟩)
          (fun z c e => ?_) (fun i q c ds j e => by subst j; exact ⟨(nown c (hlst c ds e)).1, neb c (by rw [← hown]; exact List.mem_append_right _ (List.mem_cons_of_mem _ (hlst c ds e)))⟩) (fun j z p e => ?_) (fun j hj => ca_name (by rw [← hcv]; exact comp_local hy)) (fun j hj => ?_) (fun _ _ _ _ j => j) (fun j hj _ => ?_) I4 F4 rfl p4 r4 st4 ?_
        · unfold Rho.set at e
          split at e
          · cases e
          · have := hρ z c e
            exact ⟨(nown c this).1, neb c (by rw [← hown]; exact List.mem_append_right _ (List.mem_cons_of_mem _ this))⟩
        · unfold Rho.set at e ⊢
          by_cases hzy : z = y
          · subst hzy
            exfalso
            split at e
            · rename_i q
              subst q
              simp at hyx
            · unfold Rho.only at e
              rw [hyf] at e
              simp at e
          · rw [if_neg hzy]; exact e
        · have : l[j]? = some l[j] := List.getElem?_eq_getElem hj
          simp only [this, Option.map_some, Option.getD_some]
          exact ct_nil
        · have : l[j]? = some l[j] := List.getElem?_eq_getElem hj
          simp only [this, Option.map_some, Option.getD_some]
          rw [← hcv]
          exact (body l l[j] L).ce
        · intro s5 lst5 us X5 I5 F5 j5 p5 r5 h5 tk5 up5
          subst j5
          refine ⟨rfl, src.length - (i + 1), by omega, i + 1, us, hlt, rfl, ?_, ?_, ?_, p5.at fun o e => up5 Dl o (neb Dl mD) e, ?_, ?_⟩
          · have X4 : XB (fun b => b = a ∨ b = Dl ∨ b = L) s₃ s4 := (X.trans (y1.mono fun c z => .inl z)).trans (x14.mono fun c z => .inr (.inr z))
            have db : s₃.heap.get? b = none := X.dead (y1.dead dead4)
            refine ⟨fun c o hc e => ?_, fun c o e => ?_, X5.os.trans X4.os, fun i v e => X5.gens i v (X4.gens i v e), fun h => X5.bare (X4.bare h)⟩
            · have hcb : c ≠ b := fun z => by rw [z, db] at e; cases e
              exact up5 c o hcb (X5.keep c o (fun z => by
                rcases z with z | z | z | z
                · exact z
                · exact hcb z
                · exact hc (.inr (.inl z))
                · exact hc (.inr (.inr (z.trans hcl)))) (X4.keep c o hc e))
            · have hcb : c ≠ b := fun z => by rw [z, db] at e; cases e
              obtain ⟨o1, e1⟩ := X4.live c o e
              obtain ⟨o2, e2⟩ := X5.live c o1 e1
              exact ⟨o2, up5 c o2 hcb e2⟩
          · refine ⟨fun c o e => up5 c o (fun z => ?_) (I5.top c o e), fun c m => ?_, fun c m => I5.off c (List.mem_cons_of_mem _ m)⟩
            · have := I5.off b List.mem_cons_self
              rw [← z, e] at this; cases this
            · obtain ⟨o, e⟩ := I5.live c (List.mem_cons_of_mem _ m)
              exact ⟨o, up5 c o (neb c m) e⟩
          · have F5' : Frm C cenv s5.heap (b :: ow) (ρ.only fr) lst5 := F5.weak fun z p e => only_none hxf z p e
            exact F5'.offS List.mem_cons_self (by rw [hcl]; exact neb L mL) (fun n c e => neb c (F3.cown n c e)) (fun z c e => neb c (by rw [← hown]; exact List.mem_append_right _ (List.mem_cons_of_mem _ (hρ z c e)))) (fun c ds e => neb c (by rw [← hown]; exact List.mem_append_right _ (List.mem_cons_of_mem _ (hlst c ds e)))) up5 (fun c m => List.mem_cons_of_mem _ m) fun c m z => (List.mem_cons.mp m).resolve_left z
          · rw [List.take_succ_eq_append_getElem hlt, List.flatten_append, List.map_append, hl]
            have e2 : outs (fun j => (l[j]?.map fun _ => true).getD false) (fun j => (l[j]?.map g).getD .none) l.length = l.map g := by
              rw [outs_over l (fun _ => true) g l.length (Nat.le_refl _), List.take_length, List.filter_eq_self.mpr fun _ _ => rfl]
            rw [e2] at r5
            simp only [List.flatten_cons, List.flatten_nil, List.append_nil]
            exact r5.move _ (fun c o hc e => up5 c o (fun z => hc (by rw [z]; exact List.mem_cons_self)) e) fun c m => .inl (List.mem_cons_of_mem _ m)
          · refine Sr.frame ow ow _ _ _ st1 (fun c o hc e => ?_) (fun _ m => .inl m) fun _ m => m
            have hcb : c ≠ b := fun z => by rw [z, dead4] at e; cases e
            have hcD : c ≠ Dl := by
              rcases hc with hc | hc
              · rw [hc]; exact haD
              · exact fun z => hc (z ▸ mD)
            have hcL : c ≠ L := by
              rcases hc with hc | hc
              · rw [hc]; exact haL
              · exact fun z => hc (z ▸ mL)
            exact up5 c o hcb (X5.keep c o (fun z => by
                rcases z with z | z | z | z
                · exact z
                · exact hcb z
                · exact hcD z
                · exact hcL (z.trans hcl)) (x14.keep c o hcL e))
      exact compStart_two key (Sr1.self _ 0 _ _ _ st4 key)
    · have e : i = src.length := by omega
      subst e
      refine Sr.done ow _ _ _ st' fun h' tk up => ?_
      have xx : ∀ b o, s.heap.get? b = some o → b ≠ a ∧ b ≠ Dl ∧ b ≠ L := fun b o e => by
        have e1 := x₁.keeps b o e
        exact ⟨fun z => by (rw [z, n₂] at e1; cases e1), n2 b o (x₂.keeps b o e1)⟩
      obtain ⟨mm, hm⟩ := F'.loc
      rw [hcl] at hm
      rw [List.take_length] at r'
      refine kk L Dl vs _ (x₁.dead (x₂.dead nL)) (Ne.symm hDL) ⟨⟨fun b o hb e => ?_, fun b o e => ?_, ?_, ?_, ?_⟩, x₁.dead (x₂.dead nD), p'.at fun o e => up _ o (Ne.symm haD) e, ?_⟩ ⟨mm, hm.at' fun o e => up _ o (Ne.symm haL) e⟩
      · obtain ⟨z1, z2, z3⟩ := xx b o e
        exact up b o z1 (X.keep b o (by rintro (z | z | z); exact z1 z; exact z2 z; exact z3 z) (x₃.keeps b o (x₂.keeps b o (x₁.keeps b o e))))
      · obtain ⟨z1, z2, z3⟩ := xx b o e
        obtain ⟨o', e'⟩ := X.live b o (x₃.keeps b o (x₂.keeps b o (x₁.keeps b o e)))
        exact ⟨o', up b o' z1 e'⟩
      · exact X.os.trans (x₃.os.trans (x₂.os.trans x₁.os))
      · exact fun i v e => X.gens i v (x₃.gens i v (x₂.gens i v (x₁.gens i v e)))
      · exact fun e => X.bare (x₃.bare (x₂.bare (x₁.bare e)))
      · refine r'.move _ (fun b o hb e => up b o (fun z => hb (z ▸ ma)) e) fun b m => .inl ?_
        rcases List.mem_cons.mp m with rfl | m
        · exact mD
        · rcases List.mem_cons.mp m with rfl | m
          · exact mL
          · rw [← hown]; simp [m]
  rw [← hcv] at loop
  exact codeAny_compStart_list loop (Sr.self ow 0 _ _ _ st₃ loop)
end
end Mine

-- part M32
namespace Mine
open PySem PySem.W PyProof.Rows

section
variable {C : Cx} {env : Env} {ρ : Rho} {A : Around} {m : Nat}

theorem loop_tup {elt iter : Expr} {ts : List Expr} {tk : Nat} {tp : Pos} {scope : Scope} {pos : Pos} {it acc : Value} {s : Shared} {R : Result → Shared → Prop} (Inv : Nat → Shared → Prop)
    (turn : ∀ n s, Inv n s → wpAny C.M A (pyNext it) (fun r s₁ => match r with
      | none => R (.ok .next) s₁
      | some v => wpAny C.M A (letOwnedTupleGo (.Tuple ts tk tp) it v) (fun _ s₂ => wpAny C.M A (assign (.Tuple ts tk tp) env v) (fun _ s₃ => wpAny C.M A (eval elt env) (fun x s₄ =>
          wpAny C.M A (call (.builtin "list.append") [acc, x]) (fun _ s₅ => ∃ m, m < n ∧ Inv m s₅) (notedBy C.M A env fun e s' => R (.error e) s') s₄)
          (notedBy C.M A env fun e s' => R (.error e) s') s₃) (notedBy C.M A env fun e s' => R (.error e) s') s₂) (notedBy C.M A env fun e s' => R (.error e) s') s₁) (notedBy C.M A env fun e s' => R (.error e) s') s)
    (n : Nat) (h : Inv n s) : codeAny C.M A (.compLoop (.ListComp elt [⟨.Tuple ts tk tp, iter, [], 0⟩] scope pos) 0 it acc env) R s := by
  refine codeAny_loop rfl Inv (fun n s hI => ?_) n h
  show wpAny _ A ((compTurn (.ListComp elt [⟨.Tuple ts tk tp, iter, [], 0⟩] scope pos) 0 it acc env).onRaise (fun x => do noteFrame x env; theTreesLotGoes x)) _ _ s
  refine wpAny_noted ?_
  show wpAny _ A (standAt iter.pos >>= _) _ _ s
  refine wpAny_bind (wpAny_standAt (wpAny_bind (wpAny_mono (turn n s hI) (fun r s₁ h₁ => ?_) fun _ _ h' => h')))
  cases r with
  | none => exact wpAny_pure h₁
  | some v =>
    refine wpAny_bind (wpAny_mono h₁ (fun _ s₂ h₂ => wpAny_bind (wpAny_mono h₂ (fun _ s₃ h₃ => ?_) fun _ _ h' => h')) fun _ _ h' => h')
    refine wpAny_bind (wpAny_tests_nil ?_)
    exact wpAny_bind (wpAny_bind (wpAny_mono h₃ (fun x s₄ h₄ => wpAny_bind (wpAny_mono h₄ (fun _ s₅ h₅ => wpAny_pure (wpAny_pure ⟨rfl, h₅⟩)) fun _ _ h' => h')) fun _ _ h' => h'))

/-- [elt for x, y in enumerate(e)], all pure -/
theorem co_enum {α : Type} {x y en : Str} {px py tp ep cp : Pos} {tk0 : Nat} {elt e0 : Expr} {scope : Scope} {cl : List (Str × Addr)} {fr : List Str} {pos : Pos} {src : List α} {f : α → D} {g : Nat → α → D} (S : CS env scope cl fr) (gn : GN C env en (.type "enumerate")) (he : PE C m env ρ e0 (.list (src.map f)))
    (hn : src.length < 2 ^ 20) (hx : scope.names.lookup x = some .local) (hy : scope.names.lookup y = some .local) (hxf : fr.contains x = false) (hyf : fr.contains y = false) (hyx : (x == y) = false)
    (body : ∀ i a c₀, src[i]? = some a → PE C m (compEnvC scope cl c₀ env) (((ρ.only fr).set x (.cl (.int (i : Nat)))).set y (.cl (f a))) elt (g i a))
    (hd : (en == ("__debug__" : Str)) = false := by decide) (hse : starEach [e0] env = [(false, eval e0 env)] := by rfl)
    (hs : ∀ x, foldedSetIterable (.Call (.Name en ep) [e0] [] cp) env x = pure x := by intro _; rfl) :
    CompOK C m env ρ elt [⟨.Tuple [.Name x px, .Name y py] tk0 tp, .Call (.Name en ep) [e0] [] cp, [], 0⟩] scope pos (src.mapIdx g) := by
  intro own lst s A Q E use o I0 F0 kk
  refine wpAny_comprehension_free rfl hs S.clos S.kind S.names ?_
  show wpAny C.M A (eval (.Call (.Name en ep) [e0] [] cp) env) _ E s
  have W := Fw.here I0 F0
  refine wpAny_Call_NameR (gn_eval gn I0 F0 ?_ hd)
  refine Pv.callWith_type1 (pel_cons he pel_nil hse cp A own lst s _ _ o I0 F0 fun vs₀ s₁ x₁ r₁ => ?_) hse rfl
  have W₁ := W.x0 x₁
  simp only [RepL, Rep] at r₁
  obtain ⟨_, _, rfl, ⟨ax, us, rfl, hax, la, ru⟩, rfl⟩ := r₁
  have hlen := ru.length
  refine call_enumerate_list la fun h₂ hen hit hsz₂ up₂ => ?_
  have nit : s₁.heap.get? s₁.heap.objs.size = none := get_size
  have nen : s₁.heap.get? (s₁.heap.objs.size + 1) = none := get_ge (Nat.le_succ _)
  have hne0 : s₁.heap.objs.size + 1 ≠ s₁.heap.objs.size := Nat.succ_ne_self _
  generalize s₁.heap.objs.size = it0 at hen hit nit nen hne0
  generalize it0 + 1 = e1 at hen nen hne0 ⊢
  have x₂ : XB no s₁ { s₁ with heap := h₂ } := .of_heap (tk := s₁.toks) up₂
  refine wpAny_pyIter_enum (s := { s₁ with heap := h₂ }) hen ?_
  generalize hs₂ : ({ s₁ with heap := h₂ } : Shared) = s₂ at x₂
  have hh₂ : s₂.heap = h₂ := by rw [← hs₂]
  rw [← hh₂] at hen hit
  clear hs₂ hsz₂
  refine wpAny_newObj_type (wpAny_newFunctionEnv S.cell (by intro y hy; simp at hy) (fun h₁ hns₁ hsb₁ => ?_) S.kind)
  dsimp only at hns₁ hsb₁ ⊢
  generalize hH2 : s₂.heap.push { cls := .type "list", dict := none, data := .seq ([] : List Value).toArray } = H2 at hns₁ hsb₁ ⊢
  have hL : H2.objs.size = s₂.heap.objs.size + 1 := by rw [← hH2, Heap.size_push]
  generalize hLL : H2.objs.size = L at hL hns₁ hsb₁ ⊢
  generalize hDD : s₂.heap.objs.size = Dl at hL ⊢
  have nD : s₂.heap.get? Dl = none := by rw [← hDD]; exact get_size
  have nL : s₂.heap.get? L = none := get_ge (by rw [hL, hDD]; exact Nat.le_succ _)
  have hDL : Dl ≠ L := by rw [hL]; exact Nat.ne_of_lt (Nat.lt_succ_self _)
  have n2 : ∀ b o, s₂.heap.get? b = some o → b ≠ Dl ∧ b ≠ L := fun b o e => ⟨fun z => by (rw [z, nD] at e; cases e), fun z => by (rw [z, nL] at e; cases e)⟩
  have old : ∀ b o, s₂.heap.get? b = some o → h₁.get? b = some o := fun b o e => hsb₁.extBut b o (n2 b o e).2 (Heap.get?_push_of_some _ (hH2 ▸ Heap.get?_push_of_some _ e))
  have hacc : h₁.PlainList Dl #[] := ⟨_, hsb₁.extBut _ _ hDL (Heap.get?_push_of_some _ (by rw [← hH2, ← hDD]; exact Heap.get?_push_size _ rfl))⟩
  have lL : ∃ o, h₁.get? L = some o := let ⟨o, _, _, e, _⟩ := hns₁; ⟨o, e⟩
  have x₃ : XB no s₂ { s₂ with heap := h₁, toks := s₂.toks + ([] : List (Str × Value)).length } := .of_heap old
  generalize hs₃ : ({ s₂ with heap := h₁, toks := s₂.toks + ([] : List (Str × Value)).length } : Shared) = s₃ at x₃
  have hh₃ : s₃.heap = h₁ := by rw [← hs₃]
  have x13 : XB no s₁ s₃ := x₂.trans x₃
  have fr4 : ∀ b ∈ [L, Dl, e1, it0], s₁.heap.get? b = none := fun b m => by
    simp only [List.mem_cons, List.not_mem_nil, or_false] at m
    rcases m with rfl | rfl | rfl | rfl
    · exact x₂.dead nL
    · exact x₂.dead nD
    · exact nen
    · exact nit
  have lD : ∃ o, h₁.get? Dl = some o := let ⟨_, e⟩ := hacc; ⟨_, e⟩
  have lit : ∃ o, s₂.heap.get? it0 = some o := let ⟨o, e, _⟩ := hit; ⟨o, e⟩
  have hDe : Dl ≠ e1 := Ne.symm (n2 _ _ hen).1
  have hLe : L ≠ e1 := Ne.symm (n2 _ _ hen).2
  have hDi : Dl ≠ it0 := let ⟨_, e⟩ := lit; Ne.symm (n2 _ _ e).1
  have hLi : L ≠ it0 := let ⟨_, e⟩ := lit; Ne.symm (n2 _ _ e).2
  have I₃ : Inv C s₃ ([L, Dl, e1, it0] ++ own) := by
    refine ⟨(W₁.I.x0 x13).top, fun b m => ?_, fun b m => ?_⟩
    · rcases List.mem_append.mp m with m | m
      · rw [hh₃]
        simp only [List.mem_cons, List.not_mem_nil, or_false] at m
        rcases m with rfl | rfl | rfl | rfl
        · exact lL
        · exact lD
        · exact ⟨_, old _ _ hen⟩
        · obtain ⟨o, e⟩ := lit; exact ⟨o, old _ _ e⟩
      · exact (W₁.I.x0 x13).live b m
    · rcases List.mem_append.mp m with m | m
      · exact W₁.I.new (fr4 b m)
      · exact W₁.I.off b m
  have F₃ : Frm C env s₃.heap ([L, Dl, e1, it0] ++ own) ρ lst := (W₁.F.more fr4).x0 x13
  have nown : ∀ b ∈ own, b ∉ [L, Dl, e1, it0] := fun b m z => by
    obtain ⟨o, e⟩ := W₁.I.live b m
    rw [fr4 b z] at e; cases e
  have cno : ∀ n c, env.cells.lookup n = some c → c ∉ [L, Dl, e1, it0] := fun n c e => nown c (W.F.cown n c e)
  have Fi : Frm C (compEnvC scope cl L env) s₃.heap ([L, Dl, e1, it0] ++ own) (ρ.only fr) lst := F₃.inner S List.mem_cons_self (by rw [hh₃]; exact ⟨_, hns₁⟩) fun n c e z => cno n c e (by rw [z]; simp)
  have hρ : ∀ z b, (ρ.only fr) z = some (.at b) → b ∈ own := fun z b e => by
    unfold Rho.only at e
    split at e
    · obtain ⟨v, _, z⟩ := W.F.get z _ e
      exact z.2.1
    · cases e
  have hlst : ∀ b ds, lst b = some ds → b ∈ own := fun b ds e => (F0.lst b ds e).1
  have la₃ : s₃.heap.IsList ax us.toArray := la.at fun o e => x13.keeps _ o e
  have ru₃ : RepL C s₃.heap ([L, Dl, e1, it0] ++ own) us (src.map f) := (ru.fresh fr4).keeps x13.keeps
  have axn : ax ∉ [L, Dl, e1, it0] ++ own := fun m => by
    rcases List.mem_append.mp m with m | m
    · obtain ⟨o, e, _⟩ := la; rw [fr4 _ m] at e; cases e
    · exact hax m
  have hen₃ : IsEnum s₃.heap e1 it0 0 .none := x₃.keeps _ _ hen
  have hit₃ : s₃.heap.IsListIter it0 ax 0 := hit.at fun o e => x₃.keeps _ o e
  have hacc₃ : s₃.heap.PlainList Dl #[] := by rw [hh₃]; exact hacc
  clear hs₃ hsb₁ hH2 hLL hDD hL hacc hns₁ hh₃ old lL lD
  generalize hcv : compEnvC scope cl L env = cenv at Fi
  have hcl : cenv.locals = L := by rw [← hcv]; rfl
  generalize hown : [L, Dl, e1, it0] ++ own = ow at I₃ F₃ Fi ru₃ axn
  have mL : L ∈ ow := by rw [← hown]; simp
  have mD : Dl ∈ ow := by rw [← hown]; simp
  have me : e1 ∈ ow := by rw [← hown]; simp
  have mi : it0 ∈ ow := by rw [← hown]; simp
  have loop : codeAny C.M A (.compLoop (.ListComp elt [⟨.Tuple [.Name x px, .Name y py] tk0 tp, .Call (.Name en ep) [e0] [] cp, [], 0⟩] scope pos) 0 (.ref e1) (.ref Dl) cenv) (compPost C.M A E use Q (.ref Dl) L) s₃ := by
    refine loop_tup (fun j s' => ∃ i vs old, i ≤ src.length ∧ j = src.length - i ∧ XB (fun b => b ∈ [L, Dl, e1, it0]) s₃ s' ∧ Inv C s' ow ∧ Frm C cenv s'.heap ow (ρ.only fr) lst ∧ s'.heap.PlainList Dl (List.toArray vs) ∧ RepL C s'.heap ow vs ((src.mapIdx g).take i) ∧ IsEnum s'.heap e1 it0 i old ∧ s'.heap.IsListIter it0 ax i) (fun j s' hJ => ?_) src.length
      ⟨0, [], .none, Nat.zero_le _, rfl, .refl _ _, I₃, Fi, hacc₃, by simp [RepL], hen₃, hit₃⟩
    obtain ⟨i, vs, old, hi, rfl, X, I', F', p', r', e', t'⟩ := hJ
    have la' : s'.heap.IsList ax us.toArray := la₃.at fun o e => X.keep _ o (fun z => axn (by rw [← hown]; exact List.mem_append_left _ z)) e
    have ru' : RepL C s'.heap ow us (src.map f) := ru₃.move _ (fun b o hb e => X.keep b o (fun z => hb (by rw [← hown]; exact List.mem_append_left _ z)) e) fun _ m => .inl m
    by_cases hlt : i < src.length
    · have hget : src[i]? = some src[i] := List.getElem?_eq_getElem hlt
      obtain ⟨uv, huv, ruv⟩ := ru'.get i (f src[i]) (by simp [hget])
      refine wpAny_pyNext_enum_item e' t' la' (x := uv) (by simpa using huv) hne0 fun h2 ho hit2 hT hsz2 up2 => ?_
      dsimp only
      have hTd : s'.heap.get? s'.heap.objs.size = none := get_size
      generalize s'.heap.objs.size = T at ho hT hsz2 hTd ⊢
      have hTe : T ≠ e1 := fun z => by rw [z, e'] at hTd; cases hTd
      have hTi : T ≠ it0 := fun z => by obtain ⟨o, q, _⟩ := t'; rw [z, q] at hTd; cases hTd
      refine wpAny_letOwnedTupleGo_enum ho fun h3 hen3 sb3 => ?_
      have hT3 : h3.get? T = some { cls := .type "tuple", data := .seq #[.int i s'.toks, uv] } := (sb3.2 T hTe).trans hT
      refine PyProof.Rows.assign_Tuple_tuple (items := #[.int i s'.toks, uv]) o.handled ⟨_, hT3, rfl, _, rfl⟩ rfl rfl fun h4 ex => ?_
      have up24 : ∀ b o, h3.get? b = some o → h4.get? b = some o := fun b o q => ex b o (fun z => by rw [z, get_size] at q; cases q) q
      have upA : ∀ b o, ¬ (b = e1 ∨ b = it0) → s'.heap.get? b = some o → h4.get? b = some o := fun b o hb q => up24 b o ((sb3.2 b (fun z => hb (.inl z))).trans (up2 b o (fun z => hb (.inl z)) (fun z => hb (.inr z)) q))
      have hen4 : IsEnum h4 e1 it0 ((i : Int) + 1) uv := up24 _ _ hen3
      have hit4 : h4.IsListIter it0 ax (i + 1) := hit2.at fun o q => up24 _ _ ((sb3.2 it0 (Ne.symm hne0)).trans q)
      have Y : XB (fun b => b = e1 ∨ b = it0) s' { s' with heap := h4, toks := s'.toks + 1 } := ⟨fun b o hb q => upA b o hb q, fun b o q => by
        by_cases z1 : b = e1
        · rw [z1]; exact ⟨_, hen4⟩
        · by_cases z2 : b = it0
          · rw [z2]; obtain ⟨o', q', _⟩ := hit4; exact ⟨o', q'⟩
          · exact ⟨o, upA b o (by rintro (z | z); exact z1 z; exact z2 z) q⟩, rfl, fun _ _ q => q, id⟩
      have chow : ∀ b, (b = e1 ∨ b = it0) → b ∈ ow := by rintro b (rfl | rfl); exact me; exact mi
      have I4 := I'.xb Y chow
      have F4 : Frm C cenv h4 ow (ρ.only fr) lst := F'.offC chow (by rw [hcl]; rintro (z | z); exact hLe z; exact hLi z) (fun n c e z => by
          have := cno n c (S.sub n c (by rw [← hcv] at e; exact e))
          rcases z with z | z <;> (rw [z] at this; simp at this)) (fun z b e q => by
          have := nown b (hρ z b e)
          rcases q with q | q <;> (rw [q] at this; simp at this)) (fun b ds e q => by
          have := nown b (hlst b ds e)
          rcases q with q | q <;> (rw [q] at this; simp at this)) upA (fun _ m => m) fun _ m _ => m
      have p4 : h4.PlainList Dl (List.toArray vs) := p'.at fun o q => upA Dl o (by rintro (z | z); exact hDe z; exact hDi z) q
      have upo4 : ∀ b o, b ∉ ow → s'.heap.get? b = some o → h4.get? b = some o := fun b o hb q => upA b o (fun z => hb (chow b z)) q
      have r4 : RepL C h4 ow vs ((src.mapIdx g).take i) := r'.move _ upo4 fun _ m => .inl m
      have rv4 : Rep C h4 ow uv (f src[i]) := ruv.move _ upo4 fun _ m => .inl m
      show wpAny C.M A (assignInOrder [assign (.Name x px) cenv, assign (.Name y py) cenv] [.int i s'.toks, uv]) _ _ _
      refine wpAny_bind (wpAny_holding (ca_name (C := C) (A := A) (d := .int (i : Nat)) (by rw [← hcv]; exact comp_local hx) ow lst _ _ _ _ I4 F4 ⟨s'.toks, rfl⟩ fun s5 x5 F5 => ?_))
      rw [hcl] at x5
      have I5 := I4.xb x5 (by rintro b rfl; exact mL)
      have up5 : ∀ b o, b ∉ ow → h4.get? b = some o → s5.heap.get? b = some o := fun b o hb q => x5.keep b o (fun z => hb (z ▸ mL)) q
      have rv5 : Rep C s5.heap ow uv (f src[i]) := rv4.move _ up5 fun _ m => .inl m
      refine wpAny_bind (wpAny_holding (ca_name (C := C) (A := A) (d := f src[i]) (by rw [← hcv]; exact comp_local hy) ow lst _ _ _ _ I5 F5 rv5 fun s6 x6 F6 => wpAny_pure ?_))
      rw [hcl] at x6
      have I6 := I5.xb x6 (by rintro b rfl; exact mL)
      refine (by rw [← hcv]; exact body i src[i] L hget : PE C m cenv (((ρ.only fr).set x (.cl (.int (i : Nat)))).set y (.cl (f src[i]))) elt (g i src[i])) A ow lst s6 _ _ o I6 F6 fun w s7 x7 r7 => ?_
      have x57 : XB (one L) { s' with heap := h4, toks := s'.toks + 1 } s7 := (x5.trans x6).trans x7.nil
      have p7 : s7.heap.PlainList Dl (List.toArray vs) := p4.at fun o q => x57.keep Dl o hDL q
      have r7' : RepL C s7.heap ow vs ((src.mapIdx g).take i) := r4.move _ (fun b o hb q => x57.keep b o (fun z => hb (z ▸ mL)) q) fun _ m => .inl m
      have hvl : vs.length ≤ i := by rw [r'.length]; simp; omega
      refine wpAny_list_append_plain p7 (fun h8 p8 sb8 => ?_) (by rw [List.size_toArray, sizeLine_eq]; omega)
      have p8 : h8.PlainList Dl (List.toArray (vs ++ [w])) := by simpa using p8
      have up8 : ∀ b o, b ≠ Dl → s7.heap.get? b = some o → h8.get? b = some o := fun b o z q => (sb8.2 b z).trans q
      have y8 : XB (one Dl) s7 { s7 with heap := h8, toks := s7.toks } := .sameBut sb8 (let ⟨_, q⟩ := p8; ⟨_, q⟩)
      have F7 : Frm C cenv s7.heap ow (ρ.only fr) lst := (F6.x0 x7).weak fun z p q => by
        have h1 := only_none (ρ := ρ) (x := x) (v := .cl (.int (i : Nat))) hxf z p q
        unfold Rho.set at h1 ⊢
        by_cases hzy : z = y
        · subst hzy
          unfold Rho.only at q
          rw [hyf] at q
          simp at q
        · rw [if_neg hzy]; exact h1
      refine ⟨src.length - (i + 1), by omega, i + 1, vs ++ [w], uv, hlt, rfl, ?_, ((I6.x0 x7).xb y8 (by rintro b rfl; exact mD)), ?_, p8, ?_, ?_, ?_⟩
      · refine ((X.trans (Y.mono fun b z => ?_)).trans (x57.mono fun b z => ?_)).trans (y8.mono fun b z => ?_)
        · rcases z with rfl | rfl <;> simp
        · rw [show b = L from z]; simp
        · rw [show b = Dl from z]; simp
      · exact F7.offS mD (by rw [hcl]; exact Ne.symm hDL) (fun n c e z => by
          have := cno n c (S.sub n c (by rw [← hcv] at e; exact e))
          rw [z] at this; simp at this) (fun z b e q => by
          have := nown b (hρ z b e)
          rw [q] at this; simp at this) (fun b ds e q => by
          have := nown b (hlst b ds e)
          rw [q] at this; simp at this) up8 (fun _ m => m) fun _ m _ => m
      · have e9 : (src.mapIdx g).take (i + 1) = (src.mapIdx g).take i ++ [g i src[i]] := by
          rw [List.take_succ_eq_append_getElem (by simpa using hlt)]; simp
        rw [e9]
        exact (r7'.append (.single r7)).move _ (fun b o hb q => up8 b o (fun z => hb (z ▸ mD)) q) fun _ m => .inl m
      · have : (((i + 1 : Nat) : Int)) = (i : Int) + 1 := by push_cast; rfl
        rw [this]
        exact up8 _ _ hDe.symm (x57.keep _ _ (Ne.symm hLe) hen4)
      · exact hit4.at fun o q => up8 _ _ hDi.symm (x57.keep _ _ (Ne.symm hLi) q)
    · have e : i = src.length := by omega
      subst e
      refine wpAny_pyNext_enum_end o.handled e' t' la' (by simp [hlen]) fun h' up => ?_
      obtain ⟨mm, hm⟩ := F'.loc
      rw [hcl] at hm
      rw [List.take_of_length_le (by simp)] at r'
      have xx : ∀ b o, s.heap.get? b = some o → b ∉ [L, Dl, e1, it0] := fun b o e z => by
        have e1 := x₁.keeps b o e
        rw [fr4 b z] at e1; cases e1
      refine kk L Dl vs _ (x₁.dead (fr4 L (by simp))) (Ne.symm hDL) ⟨⟨fun b o hb e => ?_, fun b o e => ?_, ?_, ?_, ?_⟩, x₁.dead (fr4 Dl (by simp)), p'.at fun o e => up _ o hDi e, ?_⟩ ⟨mm, hm.at' fun o e => up _ o hLi e⟩
      · have z := xx b o e
        exact up b o (fun q => z (by simp [q])) (X.keep b o z (x13.keeps b o (x₁.keeps b o e)))
      · have z := xx b o e
        obtain ⟨o', e'⟩ := X.live b o (x13.keeps b o (x₁.keeps b o e))
        exact ⟨o', up b o' (fun q => z (by simp [q])) e'⟩
      · exact X.os.trans (x13.os.trans x₁.os)
      · exact fun i v e => X.gens i v (x13.gens i v (x₁.gens i v e))
      · exact fun e => X.bare (x13.bare (x₁.bare e))
      · refine r'.move _ (fun b o hb e => up b o (fun z => hb (z ▸ mi)) e) fun b m => .inl ?_
        rcases List.mem_cons.mp m with rfl | m
        · exact mD
        · rcases List.mem_cons.mp m with rfl | m
          · exact mL
          · rw [← hown]; simp [m]
  rw [← hcv] at loop
  exact codeAny_compStart_list loop (wpAny_pyIter_enum hen₃ loop)
end
end Mine

-- part M33
namespace Mine
open PySem PySem.W PyProof.Rows

section
variable {C : Cx} {env : Env} {B : Org} {own : List Addr} {s : Shared} {ρ ρ' : Rho} {lst : Lst} {A : Around} {m n : Nat} {rest : List Stmt} {Q : Flow → Shared → Prop} {E : Value → Shared → Prop}

/-- if left != [a block that turns the frame's own lists]: .. -/
theorem st_neqE {left elt iter target : Expr} {ifs : List Expr} {scope : Scope} {cl : List (Str × Addr)} {fr : List Str} {cpos tpos pos : Pos} {dat g : Nat → D} {tst : Nat → Bool} {ρc : Nat → Rho} {J : Nat → Lst → Prop} {P : Addr → Prop} {d : D} {a b : List Int} {yes no' : List Stmt}
    (o : Ok m A) (W : Fw C env B s own ρ lst) (hl : PE C m env ρ left (.il a)) (S : CS env scope cl fr) (he : PE C m env ρ iter d) (hd : IsSrc d n dat) (hn : n < 2 ^ 20)
    (hP : ∀ c, P c → ∃ ds, lst c = some ds) (hJ : ∀ i l c ds, J i l → l c = some ds → c ∈ own) (j0 : J 0 lst)
    (hρc : ∀ i x p, (ρ.only fr) x = some p → ρc i x = some p)
    (asg : ∀ c₀ i, i < n → CA C (compEnvC scope cl c₀ env) A (ρ.only fr) (ρc i) target (dat i)) (test : ∀ c₀ i, i < n → CT C m (compEnvC scope cl c₀ env) (ρc i) ifs (tst i)) (skip : ∀ i l, i < n → tst i = false → J i l → J (i + 1) l)
    (body : ∀ c₀ i, i < n → tst i = true → CE C m (compEnvC scope cl c₀ env) (ρc i) P elt (J i) (J (i + 1)) (g i))
    (hb : outs tst g n = b.map .int) (hw : ∀ x p, ρ' x = some p → ρ x = some p ∧ ∀ c, p ≠ .at c)
    (k : ∀ s', Fw C env B s' own ρ' noL → (a ≠ b → wpAny C.M A (execs yes env) (fun f s' => match f with | .next => wpAny C.M A (execs rest env) Q E s' | f => Q f s') E s') ∧
      (a = b → wpAny C.M A (execs no' env) (fun f s' => match f with | .next => wpAny C.M A (execs rest env) Q E s' | f => Q f s') E s'))
    (hs : ∀ x, foldedSetIterable iter env x = pure x := by intro _; rfl) (ht : ∀ it v, letOwnedTupleGo target it v = pure () := by intro _ _; rfl)
    (hm : behindInMarks .NotEq (.ListComp elt [⟨target, iter, ifs, 0⟩] scope cpos) = false := by with_unfolding_all rfl) :
    wpAny C.M A (execs (.If (.Compare left [.NotEq] [.ListComp elt [⟨target, iter, ifs, 0⟩] scope cpos] tpos) yes no' pos :: rest) env) Q E s := by
  refine wpAny_execs_cons (wpAny_If (wpAny_isTrue_Compare1 (hl.use o W fun u s₁ x₁ ru => ?_) hm))
  rw [eval_ListComp]
  have W₁ := W.x0 x₁
  have Pown : ∀ c, P c → c ∈ own := fun c h => let ⟨ds, e⟩ := hP c h; (W.F.lst c ds e).1
  refine comp_block (J := J) (ch := P) (g := g) (tst := tst) (ρc := ρc) o W₁ S (he.ev W₁) hd hn Pown hJ j0 hρc asg test skip body (fun c₀ D us s₂ lst' n₀ hne L hm' _ _ => ?_) hs ht
  obtain ⟨mm, hns⟩ := hm'
  refine ⟨mm, hns, fun h' sb => ?_⟩
  have X : XB P s₁ { s₂ with heap := h' } := L.x.same n₀ sb
  have I₃ := W₁.I.xb X Pown
  have hD : Rep C h' own (.ref D) (.il b) := by
    simp only [Rep]
    refine ⟨D, us, rfl, W₁.I.notOwn L.n, (L.p.at fun o e => (sb.2 D (Ne.symm hne)).trans e).isList, ?_⟩
    have := L.r.move (h' := h') (own' := own) _ (fun c o hc e => (sb.2 c (fun z => hc (by rw [z]; simp))).trans e) fun c m => .inl (by simp [m])
    rw [hb] at this
    exact this
  have hu : Rep C h' own u (.il a) := Rep.xb (s := s₁) (s' := { s₂ with heap := h' }) ru X Pown
  refine op_ne (n := m) (fit_il a) (fit_il b) (eqv_il a b) A own { s₂ with heap := h' } _ _ _ _ o I₃ hu hD fun w s₄ x₄ rw' => ?_
  simp only [Rep] at rw'
  subst rw'
  have X4 : XB P s₁ s₄ := X.trans x₄.nil
  have W₄ : Fw C env B s₄ own ρ' noL := W₁.dropC (ch := P) (fun x p e => (hw x p e).1) (fun _ _ e => by cases e) (fun c h => ⟨Pown c h, W₁.new c (.inr (.inr (hP c h)))⟩) (fun c h m => W₁.incl c m) (fun h => by
      obtain ⟨ds, e⟩ := hP _ h
      obtain ⟨_, vs, p, _⟩ := W₁.F.lst _ ds e
      obtain ⟨mm, nn⟩ := W₁.F.loc
      exact ns_ne_list nn p.isList rfl) (fun n c e h => by
      obtain ⟨ds, e'⟩ := hP _ h
      obtain ⟨_, vs, p, _⟩ := W₁.F.lst _ ds e'
      obtain ⟨v, z⟩ := W₁.F.cel n c e
      exact cell_ne_list z p.isList rfl) (fun x c e => absurd rfl ((hw x _ e).2 c)) (fun _ _ e => by cases e) X4 (fun _ m => m) fun _ m _ => m
  obtain ⟨k1, k2⟩ := k s₄ W₄
  refine wpAny_truthy_bool ?_
  by_cases e : a = b
  · simp only [e, decide_true, Bool.not_true, Bool.false_eq_true, if_false]
    exact k2 e
  · simp only [e, decide_false, Bool.not_false, if_true]
    exact k1 e

/-- x.pop(), x.pop(0) inside a block -/
theorem ce_pop {x : Str} {px apos pos : Pos} {a : Addr} {P : Addr → Prop} {J J' : Lst → Prop} {d : D} (hx : ρ x = some (.at a)) (hP : P a) (hJ : ∀ l, J l → ∃ ds, l a = some (ds ++ [d]) ∧ ds.length < 2 ^ 20 ∧ J' (l.set a ds))
    (hd : (x == ("__debug__" : Str)) = false := by decide) (hc : (x == ("__classdict__" : Str)) = false := by decide) (hline : (apos.endLine == pos.line) = true := by rfl) :
    CE C n env ρ P (.Call (.Attribute (.Name x px) (K "pop") apos) [] [] pos) J J' d := by
  intro A own lst s Q E o I F j k
  obtain ⟨ds, e, hn, j'⟩ := hJ lst j
  exact ee_pop (Fw.here I F) hx e hn (fun v s₁ X W r => k v s₁ _ (X.mono fun c z => by rw [show c = a from z]; exact hP) W.F j' r) hd hc hline
theorem ce_pop0 {x : Str} {px apos pos : Pos} {e : Expr} {a : Addr} {P : Addr → Prop} {J J' : Lst → Prop} {d : D} (hx : ρ x = some (.at a)) (hP : P a) (he : PE C n env ρ e (.int 0)) (hJ : ∀ l, J l → ∃ ds, l a = some (d :: ds) ∧ ds.length + 1 < 2 ^ 20 ∧ J' (l.set a ds))
    (hd : (x == ("__debug__" : Str)) = false := by decide) (hc : (x == ("__classdict__" : Str)) = false := by decide) (hse : starEach [e] env = [(false, eval e env)] := by rfl) (hline : (apos.endLine == pos.line) = true := by rfl) :
    CE C n env ρ P (.Call (.Attribute (.Name x px) (K "pop") apos) [e] [] pos) J J' d := by
  intro A own lst s Q E o I F j k
  obtain ⟨ds, q, hn, j'⟩ := hJ lst j
  exact ee_pop_at (i := 0) (ds := d :: ds) o (Fw.here I F) hx he q (by simpa using hn) (by decide) rfl (fun v s₁ X W r => k v s₁ _ (X.mono fun c z => by rw [show c = a from z]; exact hP) W.F (by simpa using j') r) hd hc hse hline
theorem ce_if {t e1 e2 : Expr} {pos : Pos} {P : Addr → Prop} {J J' : Lst → Prop} {d : D} {c : Bool} (ht : PT C n env ρ t c) (h1 : c = true → CE C n env ρ P e1 J J' d) (h2 : c = false → CE C n env ρ P e2 J J' d) : CE C n env ρ P (.IfExp t e1 e2 pos) J J' d := by
  intro A own lst s Q E o I F j k
  refine wpAny_IfExp (ht A own lst s _ _ o I F fun s₁ x₁ => ?_)
  cases c with
  | true => exact h1 rfl A own lst s₁ _ _ o (I.x0 x₁) (F.x0 x₁) j fun v s₂ l x₂ => k v s₂ l (x₁.nil.trans x₂)
  | false => exact h2 rfl A own lst s₁ _ _ o (I.x0 x₁) (F.x0 x₁) j fun v s₂ l x₂ => k v s₂ l (x₁.nil.trans x₂)
end
end Mine

-- part M34
namespace Mine
open PySem PySem.W PyProof.Rows

structure LFacts (C : Cx) (bl br ins rif dr ini eqf gi pf la : Addr) (fl fr fi ff fw fii fe fg fp fla : FuncData) : Prop where
  D : DFacts C bl br ins rif dr fl fr fi ff fw
  P : PFacts C ini eqf gi pf fii fe fg fp
  hla : FnAt C 14 la fla
  bindl : ∀ u, bindArgs fla ⟨[u], []⟩ = pure [(K "script", u)]
  enu : C.mg (K "enumerate") = none
  enu' : C.mb (K "enumerate") = some (.type "enumerate")
  sum : C.mg (K "sum") = none
  sum' : C.mb (K "sum") = some (.builtin "sum")
  max : C.mg (K "max") = none
  max' : C.mb (K "max") = some (.builtin "max")
  min : C.mg (K "min") = none
  min' : C.mb (K "min") = some (.builtin "min")
  srt : C.mg (K "sorted") = none
  srt' : C.mb (K "sorted") = some (.builtin "sorted")

local macro_rules | `(tactic| walk_at "nm") => `(tactic| repeat' (first | assumption | exact Rho.same | exact Rho.bor_same | refine Rho.only_in (by decide) ?_ | refine Rho.bor_ne (by decide) ?_ | refine Rho.ne (by decide) ?_))

def sizes11 : List Int := [8, 7, 6, 5, 8, 7, 6, 4, 3, 2, 1]
def cellAt (ns : List Int) (i : Nat) (base : Int) : Int := (base + (picks ns (some (i : Nat)) (some 60) (some 4)).sum).fmod (10 ^ 6)
def cellsD (ns : List Int) : List Int := ([0, 178, 29, 3001] : List Int).mapIdx (cellAt ns)
def runT (k : Nat) : List Nat := List.replicate k 32 ++ [9]
def fullsD (n : Nat) : List (List Int × Nat) := (List.range (n + 1)).map fun k => wsOf (tx (((List.range k).map runT).flatten ++ [120, 32]))
def spotsD (n : Nat) (c : Int) : List Int := ((List.range n).map fun (j : Nat) => (n : Int) - 1 + j * (-1)).filter fun s => (c.fdiv (2 ^ s.toNat)).fmod 2 == 1

section
variable {C : Cx} {bl br ins rif dr ini eqf gi pf la : Addr} {fl fr fi ff fw fii fe fg fp fla : FuncData}

/-- the part of law's frame that a walk has reached -/
structure LawAt (C : Cx) (la : Addr) (fla : FuncData) (env : Env) : Prop where
  sc : env.scope = scopeAt 14
  cells : ∀ x, (scopeAt 14).names.lookup x = some .cell → ∃ c, env.cells.lookup x = some c
theorem LawAt.st {env : Env} (h : LawAt C la fla env) {x : Str} (hx : ((scopeAt 14).names.lookup x == some .local || (scopeAt 14).names.lookup x == some .cell) = true) : Stores env x := by
  have hk : env.kindOf x = (scopeAt 14).names.lookup x := by unfold Env.kindOf; rw [h.sc]
  simp only [Bool.or_eq_true, beq_iff_eq] at hx
  rcases hx with e | e
  · exact .inl (hk.trans e)
  · obtain ⟨c, hc⟩ := h.cells x e
    exact .inr ⟨hk.trans e, by rw [hc]; rfl⟩
theorem LawAt.gn {env : Env} (h : LawAt C la fla env) {x : Str} {v : Value} (hx : (scopeAt 14).names.lookup x = some .globalImplicit) (hv : C.mg x = some v ∨ (C.mg x = none ∧ C.mb x = some v)) : GN C env x v := ⟨by unfold Env.kindOf; rw [h.sc]; exact hx, hv⟩
theorem LawAt.cs {env : Env} (h : LawAt C la fla env) {scope : Scope} (hf : ((freeOf scope).all fun y => (scopeAt 14).names.lookup y == some .cell) = true)
    (hb : (scope.names.all (fun y => !(y.2 == NameKind.cell)) && scope.names.all (fun y => !(y.2 == NameKind.local) || scope.names.lookup y.1 == some .local) && scope.names.all (fun y => !(y.2 == NameKind.free) || scope.names.lookup y.1 == some .free)) = true := by rfl)
    (hk : scope.kind = .function := by rfl) : CS env scope (closGo env scope.names []) (freeOf scope) := by
  refine CS.of (fun y m => ?_) hb hk
  have e := List.all_eq_true.mp hf y m
  have e : (scopeAt 14).names.lookup y = some .cell := by simpa using e
  refine ⟨?_, ?_⟩
  · have : env.kindOf y = some .cell := by unfold Env.kindOf; rw [h.sc]; exact e
    rw [this]; decide
  · obtain ⟨c, hc⟩ := h.cells y e
    rw [hc]; rfl

theorem LawAt.sw0 {env : Env} (h : LawAt C la fla env) {x : Str} {p : Pos} {elt : Expr} {gens : List Comprehension} {scope : Scope} {pos : Pos} {line : Nat} (hx : ((scopeAt 14).names.lookup x == some .local) = false) : swapsWith (.ListComp elt gens scope pos) (some (.Name x p)) line env = pure false := by
  have hk : (env.kindOf x == some .local) = false := by unfold Env.kindOf; rw [h.sc]; exact hx
  unfold swapsWith
  simp only [hk, Bool.and_false, Bool.false_and]
theorem LawAt.sw1 {env : Env} (h : LawAt C la fla env) {x : Str} {p : Pos} {elt : Expr} {gens : List Comprehension} {scope : Scope} {pos : Pos} {line : Nat} (hx : ((scopeAt 14).names.lookup x == some .local) = true)
    (hl : (p.line == (Expr.ListComp elt gens scope pos).pos.line && !(scope.names.any fun (n, k) => n == x && (k == .local || k == .cell))) = true) : swapsWith (.ListComp elt gens scope pos) (some (.Name x p)) line env = pure true := by
  have hk : (env.kindOf x == some .local) = true := by unfold Env.kindOf; rw [h.sc]; exact hx
  have hb : (env.blockKind == .function) = true := by unfold Env.blockKind; rw [h.sc]; rfl
  unfold swapsWith
  simp only [Bool.and_eq_true] at hl
  simp only [hk, hb, hl.1, hl.2, Bool.and_self]
variable {B : Org} {own : List Addr} {s : Shared} {ρ : Rho} {lst : Lst} {rest : List Stmt} {Q : Flow → Shared → Prop} {E : Value → Shared → Prop} {A : Around} {env : Env}

theorem cells_size (ns : List Int) : (cellsD ns).length = 4 := by simp [cellsD]
theorem cells_get (ns : List Int) (i : Nat) (h : i < 4) : 0 ≤ (cellsD ns).getD i 0 ∧ (cellsD ns).getD i 0 < 10 ^ 6 := by
  have : (cellsD ns).getD i 0 = cellAt ns i (([0, 178, 29, 3001] : List Int).getD i 0) := by
    unfold cellsD
    simp only [List.getD_eq_getElem?_getD, List.getElem?_mapIdx]
    rw [List.getElem?_eq_getElem (by simpa using h)]
    rfl
  rw [this]
  unfold cellAt
  exact ⟨Int.fmod_nonneg_of_pos _ (by decide), Int.fmod_lt_of_pos _ (by decide)⟩

def sizeD (ns : List Int) : Nat := (sizes11.getD (((cellsD ns).getD 0 0).fmod 11).toNat 0).toNat
theorem size_facts (ns : List Int) : 1 ≤ sizeD ns ∧ sizeD ns ≤ 8 ∧ ((sizeD ns : Nat) : Int) = sizes11.getD (((cellsD ns).getD 0 0).fmod 11).toNat 0 := by
  have h1 : ((cellsD ns).getD 0 0).fmod 11 < 11 := Int.fmod_lt_of_pos _ (by decide)
  have h0 : 0 ≤ ((cellsD ns).getD 0 0).fmod 11 := Int.fmod_nonneg_of_pos _ (by decide)
  unfold sizeD
  generalize ((cellsD ns).getD 0 0).fmod 11 = q at h0 h1
  have key : ∀ i : Fin 11, 1 ≤ (sizes11.getD i.val 0).toNat ∧ (sizes11.getD i.val 0).toNat ≤ 8 ∧ (((sizes11.getD i.val 0).toNat : Nat) : Int) = sizes11.getD i.val 0 := by decide
  exact key ⟨q.toNat, by omega⟩
theorem runT_len {k : Nat} : (runT k).length = k + 1 := by simp [runT]

end
def lawStmt (i : Nat) : Stmt := ((bodyAt 14)[i]?).getD (.Pass ⟨0, 0, 0, 0⟩)
@[irreducible] def lawTail (i : Nat) : List Stmt := (bodyAt 14).drop i
end Mine

-- part M35
namespace Mine
open PySem PySem.W PyProof.Rows

local macro_rules | `(tactic| walk_at "nm") => `(tactic| repeat' (first | assumption | exact Rho.same | exact Rho.bor_same | refine Rho.only_in (by decide) ?_ | refine Rho.bor_ne (by decide) ?_ | refine Rho.ne (by decide) ?_))

section
variable {C : Cx} {bl br ins rif dr ini eqf gi pf la : Addr} {fl fr fi ff fw fii fe fg fp fla : FuncData}
variable {B : Org} {own : List Addr} {s : Shared} {ρ : Rho} {lst : Lst} {Q : Flow → Shared → Prop} {E : Value → Shared → Prop} {A : Around} {env : Env}

theorem law0 (X : LFacts C bl br ins rif dr ini eqf gi pf la fl fr fi ff fw fii fe fg fp fla) (V : LawAt C la fla env) {ns : List Int} (hn : ns.length ≤ 63) (o : Ok 19 A) (W : Fw C env B s own ρ lst) (h1 : ρ (K "script") = some (.cl (.il ns)))
    (k : ∀ s', Fw C env B s' own (ρ.set (K "cells") (.cl (.il (cellsD ns)))) lst → wpAny C.M A (execs (lawTail 1) env) Q E s') : wpAny C.M A (execs (lawTail 0) env) Q E s := by
  rw [show lawTail 0 = lawStmt 0 :: lawTail 1 from by unfold lawTail; rfl]
  refine st_assign (d := .il (cellsD ns)) o W (PE.cast (PL.pe (CompOK.pl (co_enum (src := ([0, 178, 29, 3001] : List Int)) (f := .int) (g := fun i b => .int (cellAt ns i b)) (V.cs rfl) (V.gn rfl (.inr ⟨X.enu, X.enu'⟩)) (PL.pe (pl_list (pel_cons pe_int (pel_cons pe_int (pel_cons pe_int (pel_cons pe_int pel_nil)))) (by simp))) (by simp) rfl rfl (by decide) (by decide) (by decide) (fun i a c₀ hi => ?cb)))) ?cc) (V.st rfl) k (V.sw0 rfl)
  case cb =>
    have hsl : (picks ns (some (i : Nat)) (some 60) (some 4)).length ≤ ns.length := picks_len _ _ _ _
    refine PE.cast (pe_bin (pe_bin (pe_name (d := .int a) (by walk_at "nm")) (pe_call ⟨comp_global rfl, .inr ⟨X.sum, X.sum'⟩⟩ (pel_cons (PE.cast (d' := .il (picks ns (some (i : Nat)) (some 60) (some 4))) (PL.pe (pl_slice (a := some (i : Nat)) (b := some 60) (c := some 4) (pe_name (d := .il ns) (by walk_at "nm")) (.some (pe_name (d := .int (i : Nat)) (by walk_at "nm"))) (.some pe_int) (.some pe_int) (by decide) (by simp; omega))) (by rw [picks_map])) pel_nil) opn_sum (.inl ⟨_, rfl⟩)) op_add) (pe_bin pe_int pe_int (op_pow (by decide) (by decide) (by decide))) (op_mod (by decide))) rfl
  case cc =>
    simp [cellsD]

theorem cell_get (ns : List Int) (i : Nat) (h : i < 4) : (List.map D.int (cellsD ns))[i]? = some (.int ((cellsD ns).getD i 0)) := by
  have := cells_size ns
  rw [List.getElem?_map, List.getD_eq_getElem?_getD, List.getElem?_eq_getElem (by omega)]; rfl

theorem pels_nil {n : Nat} {ρ : Rho} : PEL C n env ρ [] (([] : List Int).map .int) := pel_nil
theorem pels_cons {n : Nat} {ρ : Rho} {i : Int} {k : Nat} {p : Pos} {es : List Expr} {l : List Int} (h : PEL C n env ρ es (l.map .int)) : PEL C n env ρ (.Constant (.int i) k p :: es) ((i :: l).map .int) := pel_cons pe_int h
theorem law1 (V : LawAt C la fla env) {cs : List Int} {c : Int} {n : Nat} (hc : (List.map D.int cs)[(0 : Int).toNat]? = some (.int c)) (hsz : sizes11.getD (c.fmod 11).toNat 0 = (n : Int)) (o : Ok 19 A) (W : Fw C env B s own ρ lst) (h1 : ρ (K "cells") = some (.cl (.il cs)))
    (k : ∀ s', Fw C env B s' own (ρ.set (K "size") (.cl (.int n))) lst → wpAny C.M A (execs (lawTail 2) env) Q E s') : wpAny C.M A (execs (lawTail 1) env) Q E s := by
  rw [show lawTail 1 = lawStmt 1 :: lawTail 2 from by unfold lawTail; rfl]
  have hq0 := Int.fmod_nonneg_of_pos c (show (0 : Int) < 11 by decide)
  have hq1 := Int.fmod_lt_of_pos c (show (0 : Int) < 11 by decide)
  have hq2 : c.fmod 11 < 2 ^ 62 := by omega
  have hsg : (List.map D.int sizes11)[(c.fmod 11).toNat]? = some (.int (sizes11.getD (c.fmod 11).toNat 0)) := by
    rw [List.getElem?_map, List.getD_eq_getElem?_getD, List.getElem?_eq_getElem (by show _ < 11; omega)]; rfl
  rw [hsz] at hsg
  refine' st_assign ?o ?W ?pe ?st ?k ?hs
  case hs => rfl
  case k => exact k
  case o => exact o
  case W => exact W
  case st => exact V.st rfl
  case pe =>
    refine pe_item (i := c.fmod 11) (ds := sizes11.map .int) ?lst ?idx ?h0 ?hs ?h2
    case h0 => exact hq0
    case hs => exact hsg
    case h2 => exact hq2
    case lst =>
      refine' PL.pe ?pl
      refine' pl_list ?pb ?pc
      case pc => simp [sizes11]
      case pb => repeat' (first | exact pels_nil | refine' pels_cons ?_)
    case idx =>
      refine pe_bin ?ia pe_int (op_mod (by decide))
      refine pe_item (i := 0) (d := .int c) (ds := cs.map .int) ?ic pe_int (by decide) ?ihc (by decide)
      case ic => exact pe_name (d := .il cs) (by walk_at "nm")
      case ihc => exact hc
end
end Mine

-- part M36
namespace Mine
open PySem PySem.W PyProof.Rows

local macro_rules | `(tactic| walk_at "nm") => `(tactic| repeat' (first | assumption | exact Rho.same | exact Rho.bor_same | refine Rho.only_in (by decide) ?_ | refine Rho.bor_ne (by decide) ?_ | refine Rho.ne (by decide) ?_))

section
variable {C : Cx} {bl br ins rif dr ini eqf gi pf la : Addr} {fl fr fi ff fw fii fe fg fp fla : FuncData}
variable {B : Org} {own : List Addr} {s : Shared} {ρ : Rho} {lst : Lst} {Q : Flow → Shared → Prop} {E : Value → Shared → Prop} {A : Around} {env : Env}

theorem law2 (X : LFacts C bl br ins rif dr ini eqf gi pf la fl fr fi ff fw fii fe fg fp fla) (V : LawAt C la fla env) {n : Nat} (hn : n ≤ 8) (o : Ok 19 A) (W : Fw C env B s own ρ lst) (h1 : ρ (K "size") = some (.cl (.int n)))
    (k : ∀ s', Fw C env B s' own (ρ.set (K "fulls") (.cl (D.wsl (fullsD n)))) lst → wpAny C.M A (execs (lawTail 3) env) Q E s') : wpAny C.M A (execs (lawTail 2) env) Q E s := by
  rw [show lawTail 2 = lawStmt 2 :: lawTail 3 from by unfold lawTail; rfl]
  refine st_assign (d := D.wsl (fullsD n)) o W (PE.cast (PL.pe (CompOK.pl (co_over (src := List.range (n + 1)) (f := fun k => .int (k : Nat)) (g := fun k => D.ws (wsOf (tx (((List.range k).map runT).flatten ++ [120, 32]))).1 ((wsOf (tx (((List.range k).map runT).flatten ++ [120, 32]))).2 : Nat)) (p := fun _ => true) (V.cs rfl) (pe_call (d := .rng 0 1 (n + 1)) (V.gn rfl (.inr ⟨X.D.range, X.D.range'⟩)) (pel_cons (pe_bin (pe_name (d := .int n) (by walk_at "nm")) pe_int op_add) pel_nil) (opn_range1 (by omega) (by omega) (by omega)) (.inr (.inl ⟨_, rfl⟩)))
    (.inr (.inr ⟨0, 1, by simp, fun i v e => ?rg⟩)) (by simp; omega) rfl (by decide) (fun a c₀ _ => ct_nil) (fun a c₀ hm _ => ?fb)))) ?fc) (V.st rfl) k (V.sw0 rfl)
  case rg =>
    obtain ⟨h, e⟩ := List.getElem?_eq_some_iff.mp e
    rw [List.getElem_range] at e
    subst e; simp
  case fb =>
    have ha : a < 9 := by have := List.mem_range.mp hm; omega
    have htl : (((List.range a).map runT).flatten).length ≤ 81 := by
      have h1 := flat_le (l := (List.range a).map runT) (B := 9) (fun x hx => by obtain ⟨c, hc, rfl⟩ := List.mem_map.mp hx; have := List.mem_range.mp hc; rw [runT_len]; omega)
      have h2 : ((List.range a).map runT).length ≤ 9 := by simp; omega
      have h3 := Nat.mul_le_mul_right 9 h2
      omega
    refine pe_callK ⟨comp_global rfl, .inl X.P.ncls⟩ (pel_cons (pe_bin (pe_join (l := (List.range a).map runT) (PE.cast (PL.pe (CompOK.pl (co_over (src := List.range a) (f := fun k => .int (k : Nat)) (g := fun k => .str (tx (runT k))) (p := fun _ => true) (CS.of (fun y m => by cases m)) (pe_call (d := .rng 0 1 a) ⟨comp_global rfl, .inr ⟨X.D.range, X.D.range'⟩⟩ (pel_cons (pe_name (d := .int (a : Nat)) (by walk_at "nm")) pel_nil) (opn_range1 (by omega) (by omega) (by omega)) (.inr (.inl ⟨_, rfl⟩)))
      (.inr (.inr ⟨0, 1, by simp, fun i v e => ?rg2⟩)) (by simp; omega) rfl (by decide) (fun a c₀ _ => ct_nil) (fun b c₁ hb _ => ?gb)))) ?gc) (by omega)) (pe_str (x := tx [120, 32])) (op_adds (by simp only [List.length_cons, List.length_nil]; omega))) pel_nil) ((opn_ws X.P.toNFacts (by rw [show (tx _).cps.size = (tx _).length from rfl, tx_length, List.length_append]; simp only [List.length_cons, List.length_nil]; omega)).le (by decide)) X.P.keepc
    case rg2 =>
      obtain ⟨h, e⟩ := List.getElem?_eq_some_iff.mp e
      rw [List.getElem_range] at e
      subst e; simp
    case gb =>
      have hb' := List.mem_range.mp hb
      exact pe_bin (pe_bin (pe_str (x := tx [32])) (pe_name (d := .int (b : Nat)) (by walk_at "nm")) (op_muls (by omega))) (pe_str (x := tx [9])) (op_adds (by simp; omega))
    case gc =>
      rw [List.filter_eq_self.mpr fun _ _ => rfl]
      show D.list _ = D.list _
      rw [List.map_map]; rfl
  case fc =>
    rw [List.filter_eq_self.mpr fun _ _ => rfl]
    show D.list _ = D.list _
    unfold fullsD
    rw [List.map_map]; rfl
end
end Mine

-- part M37
namespace Mine
open PySem PySem.W PyProof.Rows

local macro_rules | `(tactic| walk_at "nm") => `(tactic| repeat' (first | assumption | exact Rho.same | exact Rho.bor_same | refine Rho.only_in (by decide) ?_ | refine Rho.bor_ne (by decide) ?_ | refine Rho.ne (by decide) ?_))

theorem spot_range {n : Nat} {a : Int} (h : a ∈ (List.range n).map fun (j : Nat) => (n : Int) - 1 + j * (-1)) : 0 ≤ a ∧ a < n := by
  obtain ⟨j, hj, rfl⟩ := List.mem_map.mp h
  have := List.mem_range.mp hj
  omega
theorem spots_mem {n : Nat} {c a : Int} (h : a ∈ spotsD n c) : 0 ≤ a ∧ a < n := spot_range (List.mem_filter.mp h).1
theorem spots_len (n : Nat) (c : Int) : (spotsD n c).length ≤ n := by
  refine Nat.le_trans (List.length_filter_le _ _) ?_
  simp
theorem pow2_pos (k : Nat) : (0 : Int) < 2 ^ k := Int.pow_pos (by decide)
theorem pow2_le {k : Nat} (h : k ≤ 8) : (2 : Int) ^ k ≤ 256 := by
  have : ∀ k : Fin 9, (2 : Int) ^ k.val ≤ 256 := by decide
  exact this ⟨k, by omega⟩

section
variable {C : Cx} {bl br ins rif dr ini eqf gi pf la : Addr} {fl fr fi ff fw fii fe fg fp fla : FuncData}
variable {B : Org} {own : List Addr} {s : Shared} {ρ : Rho} {lst : Lst} {Q : Flow → Shared → Prop} {E : Value → Shared → Prop} {A : Around} {env : Env}

theorem law3 (X : LFacts C bl br ins rif dr ini eqf gi pf la fl fr fi ff fw fii fe fg fp fla) (V : LawAt C la fla env) {cs : List Int} {c : Int} {n : Nat} (hc : (List.map D.int cs)[(1 : Int).toNat]? = some (.int c)) (hc0 : 0 ≤ c) (hc1 : c < 10 ^ 6) (hn : n ≤ 8) (o : Ok 19 A) (W : Fw C env B s own ρ lst) (h1 : ρ (K "cells") = some (.cl (.il cs))) (h2 : ρ (K "size") = some (.cl (.int n)))
    (k : ∀ s', Fw C env B s' own (ρ.set (K "spots") (.cl (.il (spotsD n c)))) lst → wpAny C.M A (execs (lawTail 4) env) Q E s') : wpAny C.M A (execs (lawTail 3) env) Q E s := by
  rw [show lawTail 3 = lawStmt 3 :: lawTail 4 from by unfold lawTail; rfl]
  refine st_assign (d := .il (spotsD n c)) o W (PE.cast (PL.pe (CompOK.pl (co_over (src := (List.range n).map fun (j : Nat) => (n : Int) - 1 + j * (-1)) (f := .int) (g := .int) (p := fun s => (c.fdiv (2 ^ s.toNat)).fmod 2 == 1) (V.cs rfl)
    (pe_call (d := .rng ((n : Int) - 1) (-1) n) (V.gn rfl (.inr ⟨X.D.range, X.D.range'⟩)) (pel_cons (pe_bin (pe_name (d := .int n) (by walk_at "nm")) pe_int op_sub) (pel_cons (pe_neg pe_int) (pel_cons (pe_neg pe_int) pel_nil))) (opn_range_down (by omega) (by omega) (by omega) (by omega) (by omega)) (.inr (.inl ⟨_, rfl⟩)))
    (.inr (.inr ⟨(n : Int) - 1, -1, by simp, fun i v e => ?rg⟩)) (by simp; omega) rfl (by decide) (fun a c₀ hm => ct_one ?tst) (fun a c₀ hm _ => ?bd)))) ?fc) (V.st rfl) k (V.sw0 rfl)
  case rg =>
    rw [List.getElem?_map] at e
    obtain ⟨j, e1, rfl⟩ := Option.map_eq_some_iff.mp e
    obtain ⟨h, e⟩ := List.getElem?_eq_some_iff.mp e1
    rw [List.getElem_range] at e
    subst e; rfl
  case bd => exact pe_name (by walk_at "nm")
  case tst =>
    have ha := spot_range hm
    have hp := pow2_pos a.toNat
    have hq := pow2_le (k := a.toNat) (by omega)
    exact pt_cmp (pe_bin (pe_bin (pe_item (i := 1) (d := .int c) (pe_name (d := .il cs) (by walk_at "nm")) pe_int (by decide) hc (by decide)) (pe_bin pe_int (pe_name (d := .int a) (by walk_at "nm")) (op_pow ha.1 (by omega) (by decide))) (op_div (by omega) (PyProof.noPylong_small (by omega)))) pe_int (op_mod (by decide))) pe_int op_eqi
  case fc => rfl

theorem law4 (X : LFacts C bl br ins rif dr ini eqf gi pf la fl fr fi ff fw fii fe fg fp fla) (V : LawAt C la fla env) {sp : List Int} {n : Nat} (hn : n ≤ 8) (hs : sp.length ≤ n) (o : Ok 19 A) (W : Fw C env B s own ρ lst) (h1 : ρ (K "spots") = some (.cl (.il sp))) (h2 : ρ (K "size") = some (.cl (.int n)))
    (k : ∀ s', Fw C env B s' own (ρ.set (K "riffled") (.cl (.il (riffled sp n)))) lst → wpAny C.M A (execs (lawTail 5) env) Q E s') : wpAny C.M A (execs (lawTail 4) env) Q E s := by
  rw [show lawTail 4 = lawStmt 4 :: lawTail 5 from by unfold lawTail; rfl]
  exact st_assign (d := .il (riffled sp n)) o W (pe_call (V.gn rfl (.inl X.D.nrif)) (pel_cons (pe_name (d := .il sp) (by walk_at "nm")) (pel_cons (pe_name (d := .int n) (by walk_at "nm")) pel_nil)) ((rif_spec X.D.toRFacts (by omega) (by omega)).le (by decide)) (.inr (.inr X.D.hrif.atK))) (V.st rfl) k
end
end Mine

-- part M38
namespace Mine
open PySem PySem.W PyProof.Rows

local macro_rules | `(tactic| walk_at "nm") => `(tactic| repeat' (first | assumption | exact Rho.same | exact Rho.bor_same | refine Rho.only_in (by decide) ?_ | refine Rho.bor_ne (by decide) ?_ | refine Rho.ne (by decide) ?_))

structure Hnd where
  pile : List Int
  rest : List Int
  out : List Int
/-- the cards taken off by hand, i of them -/
def handGo (sp : List Int) (n : Nat) : Nat → Hnd
  | 0 => ⟨(List.range sp.length).map fun (j : Nat) => (0 : Int) + j * 1, (List.range (n - sp.length)).map fun (j : Nat) => (sp.length : Int) + j * 1, []⟩
  | i + 1 => let S := handGo sp n i
    if (i : Int) ∈ sp then ⟨S.pile.dropLast, S.rest, S.out ++ [S.pile.getLastD 0]⟩ else ⟨S.pile, S.rest.tail, S.out ++ [S.rest.headD 0]⟩
def handD (sp : List Int) (n : Nat) : List Int := (handGo sp n n).out
def handOk (sp : List Int) (n : Nat) : Prop := ∀ i : Fin n, ((i.val : Int) ∈ sp → (handGo sp n i.val).pile ≠ []) ∧ ((i.val : Int) ∉ sp → (handGo sp n i.val).rest ≠ [])
def handAt (sp : List Int) (n i : Nat) : Int := if (i : Int) ∈ sp then (handGo sp n i).pile.getLastD 0 else (handGo sp n i).rest.headD 0
theorem hand_len (sp : List Int) (n : Nat) : ∀ i, (handGo sp n i).pile.length ≤ sp.length ∧ (handGo sp n i).rest.length ≤ n
  | 0 => by simp [handGo]
  | i + 1 => by
    have := hand_len sp n i
    unfold handGo
    dsimp only
    split <;> simp <;> omega
theorem hand_outs (sp : List Int) (n : Nat) : ∀ i, outs (fun _ => true) (fun i => D.int (handAt sp n i)) i = (handGo sp n i).out.map .int
  | 0 => by simp [outs, handGo]
  | i + 1 => by
    rw [outs_succ, hand_outs sp n i, if_pos rfl]
    unfold handAt
    conv => rhs; unfold handGo
    dsimp only
    split <;> simp

section
variable {C : Cx} {bl br ins rif dr ini eqf gi pf la : Addr} {fl fr fi ff fw fii fe fg fp fla : FuncData}
variable {B : Org} {own : List Addr} {s : Shared} {ρ : Rho} {lst : Lst} {Q : Flow → Shared → Prop} {E : Value → Shared → Prop} {A : Around} {env : Env}

theorem law567 (X : LFacts C bl br ins rif dr ini eqf gi pf la fl fr fi ff fw fii fe fg fp fla) (V : LawAt C la fla env) {sp rd : List Int} {n : Nat} (hn : n ≤ 8) (hs : sp.length ≤ n) (hh : handOk sp n) (he : rd = handD sp n)
    (o : Ok 19 A) (W : Fw C env B s own ρ noL) (h1 : ρ (K "spots") = some (.cl (.il sp))) (h2 : ρ (K "size") = some (.cl (.int n))) (h3 : ρ (K "riffled") = some (.cl (.il rd)))
    (hat : ∀ x p, ρ x = some p → (x == K "pile") = false ∧ (x == K "rest") = false ∧ ∀ c, p ≠ .at c)
    (k : ∀ s' own', Fw C env B s' own' ρ noL → wpAny C.M A (execs (lawTail 8) env) Q E s') : wpAny C.M A (execs (lawTail 5) env) Q E s := by
  rw [show lawTail 5 = lawStmt 5 :: lawTail 6 from by unfold lawTail; rfl]
  refine sv_newlist o W (PL.el (pl_list_range (m := sp.length) (V.gn rfl (.inr ⟨X.D.list, X.D.list'⟩)) (pe_call (V.gn rfl (.inr ⟨X.D.range, X.D.range'⟩)) (pel_cons (pe_call (V.gn rfl (.inr ⟨X.D.len, X.D.len'⟩)) (pel_cons (pe_name (d := .il sp) (by walk_at "nm")) pel_nil) (opn_len (by simp; omega)) (.inl ⟨_, rfl⟩)) pel_nil) (opn_range1 (by simp only [List.length_map]; omega) (by simp only [List.length_map]; omega) (by simp)) (.inr (.inl ⟨_, rfl⟩))) (by omega)) W) (V.st rfl) fun s₂ p hp W => ?_
  rw [show lawTail 6 = lawStmt 6 :: lawTail 7 from by unfold lawTail; rfl]
  refine sv_newlist o W (PL.el (pl_list_range (m := n - sp.length) (V.gn rfl (.inr ⟨X.D.list, X.D.list'⟩)) (pe_call (V.gn rfl (.inr ⟨X.D.range, X.D.range'⟩)) (pel_cons (pe_call (V.gn rfl (.inr ⟨X.D.len, X.D.len'⟩)) (pel_cons (pe_name (d := .il sp) (by walk_at "nm")) pel_nil) (opn_len (by simp; omega)) (.inl ⟨_, rfl⟩)) (pel_cons (pe_name (d := .int n) (by walk_at "nm")) pel_nil)) (opn_range2 (by simp only [List.length_map]; omega) (by simp only [List.length_map]; omega) (by omega) (by omega) (by simp only [List.length_map]; omega)) (.inr (.inl ⟨_, rfl⟩))) (by omega)) W) (V.st rfl) fun s₃ r hr W3 => ?_
  have hne : p ≠ r := fun e => by
    obtain ⟨_, us, ⟨_, q⟩, _⟩ := W.F.lst p _ Lst.same
    rw [e, hr] at q; cases q
  obtain ⟨l3, hp3, hr3, ho3, W3⟩ : ∃ l3, l3 p = some ((handGo sp n 0).pile.map .int) ∧ l3 r = some ((handGo sp n 0).rest.map .int) ∧ (∀ c ds, l3 c = some ds → c = p ∨ c = r) ∧ Fw C env B s₃ (r :: p :: own) ((ρ.set (K "pile") (.at p)).set (K "rest") (.at r)) l3 := by
    refine ⟨_, ?_, ?_, ?_, W3⟩
    · rw [Lst.ne hne Lst.same]; simp [handGo]
    · rw [Lst.same]; simp [handGo]
    · intro c ds e
      unfold Lst.set at e
      split at e
      · rename_i q; exact .inr q
      · split at e
        · rename_i q; exact .inl q
        · cases e
  rw [show lawTail 7 = lawStmt 7 :: lawTail 8 from by unfold lawTail; rfl]
  refine st_neqE (n := n) (a := rd) (b := handD sp n) (d := .rng 0 1 n) (dat := fun i => .int (i : Nat)) (g := fun i => .int (handAt sp n i)) (tst := fun _ => true) (ρc := fun i => (Rho.only ((ρ.set (K "pile") (.at p)).set (K "rest") (.at r)) _).set (K "spot") (.cl (.int (i : Nat))))
    (J := fun i l => l p = some ((handGo sp n i).pile.map .int) ∧ l r = some ((handGo sp n i).rest.map .int) ∧ ∀ c ds, l c = some ds → c = p ∨ c = r) (P := fun c => c = p ∨ c = r) (ρ' := ρ)
    o W3 (pe_name (d := .il rd) (by walk_at "nm")) (V.cs rfl) (pe_call (V.gn rfl (.inr ⟨X.D.range, X.D.range'⟩)) (pel_cons (pe_name (d := .int n) (by walk_at "nm")) pel_nil) (opn_range1 (by omega) (by omega) (by omega)) (.inr (.inl ⟨_, rfl⟩)))
    (.rng fun i hi => by simp) (by omega) ?hP ?hJ ⟨hp3, hr3, ho3⟩ (fun i => only_none (by decide)) (fun c₀ i hi => ?asg) (fun c₀ i hi => ct_nil) (fun i l hi e => by cases e) (fun c₀ i hi _ => ?body) (hand_outs sp n n) ?hw (fun s₄ W4 => ⟨fun e => absurd he e, fun _ => st_nil (k s₄ _ W4)⟩)
  case hP => 
    rintro c (rfl | rfl)
    · exact ⟨_, hp3⟩
    · exact ⟨_, hr3⟩
  case hJ => 
    rintro i l c ds ⟨_, _, h⟩ e
    rcases h c ds e with rfl | rfl <;> simp
  case asg => exact ca_name (comp_local rfl)
  case hw =>
    intro x q e
    obtain ⟨e1, e2, e3⟩ := hat x q e
    exact ⟨Rho.ne e2 (Rho.ne e1 e), e3⟩
  case body =>
    obtain ⟨q1, q2⟩ := hand_len sp n i
    refine ce_if (pt_cmp (pe_name (d := .int (i : Nat)) (by walk_at "nm")) (pe_name (d := .il sp) (by walk_at "nm")) op_in) (fun hm => ?_) (fun hm => ?_)
    · have hm := of_decide_eq_true hm
      have hne' := (hh ⟨i, hi⟩).1 hm
      have hsp := List.dropLast_concat_getLast hne'
      refine ce_pop (a := p) (by walk_at "nm") (.inl rfl) (fun l ⟨j1, j2, j3⟩ => ⟨(handGo sp n i).pile.dropLast.map .int, ?_, by simp; omega, ?_, ?_, ?_⟩)
      · rw [j1]
        unfold handAt
        rw [if_pos hm, List.getLastD_eq_getLast?, List.getLast?_eq_some_getLast hne', Option.getD_some]
        conv => lhs; rw [← hsp]
        simp
      · rw [Lst.same]; conv => rhs; unfold handGo
        dsimp only; rw [if_pos hm]
      · rw [Lst.ne (Ne.symm hne) j2]; conv => rhs; unfold handGo
        dsimp only; rw [if_pos hm]
      · intro c ds e
        unfold Lst.set at e
        split at e
        · rename_i q; exact .inl q
        · exact j3 c ds e
    · have hm := of_decide_eq_false hm
      have hne' := (hh ⟨i, hi⟩).2 hm
      refine ce_pop0 (a := r) (by walk_at "nm") (.inr rfl) pe_int (fun l ⟨j1, j2, j3⟩ => ⟨(handGo sp n i).rest.tail.map .int, ?_, by simp; omega, ?_, ?_, ?_⟩)
      · rw [j2]
        unfold handAt
        rw [if_neg hm]
        cases e : (handGo sp n i).rest with
        | nil => exact absurd e hne'
        | cons a t => simp
      · rw [Lst.ne hne j1]; conv => rhs; unfold handGo
        dsimp only; rw [if_neg hm]
      · rw [Lst.same]; conv => rhs; unfold handGo
        dsimp only; rw [if_neg hm]
      · intro c ds e
        unfold Lst.set at e
        split at e
        · rename_i q; exact .inr q
        · exact j3 c ds e
end
end Mine

-- part M39
namespace Mine
open PySem PySem.W PyProof.Rows

local macro_rules | `(tactic| walk_at "nm") => `(tactic| repeat' (first | assumption | exact Rho.same | exact Rho.bor_same | refine Rho.only_in (by decide) ?_ | refine Rho.bor_ne (by decide) ?_ | refine Rho.ne (by decide) ?_))

def swapI (one two i : Int) : Int := if i = one then two else if i = two then one else i
def bentD (rd : List Int) (n : Nat) (one two : Int) : List Int := (List.range n).map fun (i : Nat) => rd.getD (swapI one two i).toNat 0
theorem swapI_range {one two i : Int} {n : Nat} (h1 : 0 ≤ one ∧ one < n) (h2 : 0 ≤ two ∧ two < n) (h3 : 0 ≤ i ∧ i < n) : 0 ≤ swapI one two i ∧ swapI one two i < n := by
  unfold swapI
  split
  · exact h2
  · split
    · exact h1
    · exact h3

theorem range_src {n i v : Nat} (e : (List.range n)[i]? = some v) : v = i := by
  obtain ⟨h, e⟩ := List.getElem?_eq_some_iff.mp e
  rw [List.getElem_range] at e
  exact e.symm
theorem filter_true {α : Type} (l : List α) : l.filter (fun _ => true) = l := List.filter_eq_self.mpr fun _ _ => rfl

section
variable {C : Cx} {bl br ins rif dr ini eqf gi pf la : Addr} {fl fr fi ff fw fii fe fg fp fla : FuncData}
variable {B : Org} {own : List Addr} {s : Shared} {ρ : Rho} {lst : Lst} {Q : Flow → Shared → Prop} {E : Value → Shared → Prop} {A : Around} {env : Env}

theorem law8 (V : LawAt C la fla env) {cs : List Int} {c : Int} {n : Nat} (hc : (List.map D.int cs)[(2 : Int).toNat]? = some (.int c)) (hn : 1 ≤ n) (o : Ok 19 A) (W : Fw C env B s own ρ lst) (h1 : ρ (K "cells") = some (.cl (.il cs))) (h2 : ρ (K "size") = some (.cl (.int n)))
    (k : ∀ s', Fw C env B s' own (ρ.set (K "one") (.cl (.int (c.fmod n)))) lst → wpAny C.M A (execs (lawTail 9) env) Q E s') : wpAny C.M A (execs (lawTail 8) env) Q E s := by
  rw [show lawTail 8 = lawStmt 8 :: lawTail 9 from by unfold lawTail; rfl]
  exact st_assign (d := .int (c.fmod n)) o W (pe_bin (pe_item (i := 2) (d := .int c) (pe_name (d := .il cs) (by walk_at "nm")) pe_int (by decide) hc (by decide)) (pe_name (d := .int n) (by walk_at "nm")) (op_mod (by omega))) (V.st rfl) k
theorem law9 (V : LawAt C la fla env) {cs : List Int} {c : Int} {n : Nat} (hc : (List.map D.int cs)[(2 : Int).toNat]? = some (.int c)) (hn : 1 ≤ n) (o : Ok 19 A) (W : Fw C env B s own ρ lst) (h1 : ρ (K "cells") = some (.cl (.il cs))) (h2 : ρ (K "size") = some (.cl (.int n)))
    (k : ∀ s', Fw C env B s' own (ρ.set (K "two") (.cl (.int ((c.fdiv 8).fmod n)))) lst → wpAny C.M A (execs (lawTail 10) env) Q E s') : wpAny C.M A (execs (lawTail 9) env) Q E s := by
  rw [show lawTail 9 = lawStmt 9 :: lawTail 10 from by unfold lawTail; rfl]
  exact st_assign (d := .int ((c.fdiv 8).fmod n)) o W (pe_bin (pe_bin (pe_item (i := 2) (d := .int c) (pe_name (d := .il cs) (by walk_at "nm")) pe_int (by decide) hc (by decide)) pe_int (op_div (by decide) (PyProof.noPylong_small (by decide)))) (pe_name (d := .int n) (by walk_at "nm")) (op_mod (by omega))) (V.st rfl) k
theorem law10 (X : LFacts C bl br ins rif dr ini eqf gi pf la fl fr fi ff fw fii fe fg fp fla) (V : LawAt C la fla env) {rd : List Int} {n : Nat} {one two : Int} (hn : n ≤ 8) (hr : rd.length = n) (h1 : 0 ≤ one ∧ one < n) (h2 : 0 ≤ two ∧ two < n) (o : Ok 19 A) (W : Fw C env B s own ρ lst)
    (h3 : ρ (K "riffled") = some (.cl (.il rd))) (h4 : ρ (K "size") = some (.cl (.int n))) (h5 : ρ (K "one") = some (.cl (.int one))) (h6 : ρ (K "two") = some (.cl (.int two)))
    (k : ∀ s', Fw C env B s' own (ρ.set (K "bent") (.cl (.il (bentD rd n one two)))) lst → wpAny C.M A (execs (lawTail 11) env) Q E s') : wpAny C.M A (execs (lawTail 10) env) Q E s := by
  rw [show lawTail 10 = lawStmt 10 :: lawTail 11 from by unfold lawTail; rfl]
  refine CompOK.st (CompOK.cast (ds' := (bentD rd n one two).map .int) (co_over (src := List.range n) (f := fun i => .int (i : Nat)) (g := fun i => .int (rd.getD (swapI one two i).toNat 0)) (p := fun _ => true) (V.cs rfl)
    (pe_call (d := .rng 0 1 n) (V.gn rfl (.inr ⟨X.D.range, X.D.range'⟩)) (pel_cons (pe_name (d := .int n) (by walk_at "nm")) pel_nil) (opn_range1 (by omega) (by omega) (by omega)) (.inr (.inl ⟨_, rfl⟩)))
    (.inr (.inr ⟨0, 1, by simp, fun i v e => by rw [range_src e]; simp⟩)) (by simp; omega) rfl (by decide) (fun a c₀ hm => ct_nil) (fun a c₀ hm _ => ?bd)) ?fc) o W (V.st rfl) k (V.sw1 rfl rfl)
  case bd =>
    have ha := List.mem_range.mp hm
    obtain ⟨s1, s2⟩ := swapI_range h1 h2 (i := (a : Int)) ⟨by omega, by omega⟩
    refine pe_item (i := swapI one two a) (ds := rd.map .int) (pe_name (d := .il rd) (by walk_at "nm")) ?ix s1 ?it (by omega)
    case it =>
      rw [List.getElem?_map, List.getD_eq_getElem?_getD, List.getElem?_eq_getElem (by omega)]; rfl
    case ix =>
      refine pe_if (pt_cmp (pe_name (d := .int (a : Nat)) (by walk_at "nm")) (pe_name (d := .int one) (by walk_at "nm")) op_eqi) (fun e => PE.cast (pe_name (d := .int two) (by walk_at "nm")) ?c1) (fun e => pe_if (pt_cmp (pe_name (d := .int (a : Nat)) (by walk_at "nm")) (pe_name (d := .int two) (by walk_at "nm")) op_eqi) (fun e' => PE.cast (pe_name (d := .int one) (by walk_at "nm")) ?c2) (fun e' => PE.cast (pe_name (d := .int (a : Nat)) (by walk_at "nm")) ?c3))
      case c1 => unfold swapI; rw [if_pos (by simpa using e)]
      case c2 => unfold swapI; rw [if_neg (by simpa using e), if_pos (by simpa using e')]
      case c3 => unfold swapI; rw [if_neg (by simpa using e), if_neg (by simpa using e')]
  case fc =>
    rw [filter_true]
    unfold bentD
    rw [List.map_map]; rfl
theorem law11 (X : LFacts C bl br ins rif dr ini eqf gi pf la fl fr fi ff fw fii fe fg fp fla) (V : LawAt C la fla env) {cs : List Int} {c : Int} {n : Nat} (hc : (List.map D.int cs)[(3 : Int).toNat]? = some (.int c)) (hc0 : 0 ≤ c) (hc1 : c < 10 ^ 6) (hn : n ≤ 8) (o : Ok 19 A) (W : Fw C env B s own ρ lst) (h1 : ρ (K "cells") = some (.cl (.il cs))) (h2 : ρ (K "size") = some (.cl (.int n)))
    (k : ∀ s', Fw C env B s' own (ρ.set (K "drawn") (.cl (.il (drawn n c)))) lst → wpAny C.M A (execs (lawTail 12) env) Q E s') : wpAny C.M A (execs (lawTail 11) env) Q E s := by
  rw [show lawTail 11 = lawStmt 11 :: lawTail 12 from by unfold lawTail; rfl]
  exact st_assign (d := .il (drawn n c)) o W (pe_call (V.gn rfl (.inl X.D.ndr)) (pel_cons (pe_name (d := .int n) (by walk_at "nm")) (pel_cons (pe_item (i := 3) (d := .int c) (pe_name (d := .il cs) (by walk_at "nm")) pe_int (by decide) hc (by decide)) pel_nil)) ((drw_spec X.D (by omega) hc0 (by omega)).le (by decide)) (.inr (.inr X.D.hdr.atK))) (V.st rfl) k
end
end Mine

-- part M40
namespace Mine
open PySem PySem.W PyProof.Rows

local macro_rules | `(tactic| walk_at "nm") => `(tactic| repeat' (first | assumption | exact Rho.same | exact Rho.bor_same | refine Rho.only_in (by decide) ?_ | refine Rho.bor_ne (by decide) ?_ | refine Rho.ne (by decide) ?_))

def mxL : List Int → Int
  | [] => 0
  | a :: l => l.foldl max a
def mnL : List Int → Int
  | [] => 0
  | a :: l => l.foldl min a
theorem foldl_max (l : List Int) : ∀ a : Int, (l.foldl max a = a ∨ l.foldl max a ∈ l) ∧ a ≤ l.foldl max a ∧ ∀ b ∈ l, b ≤ l.foldl max a := by
  induction l with
  | nil => intro a; simp
  | cons x l ih =>
    intro a
    obtain ⟨h1, h2, h3⟩ := ih (max a x)
    rw [List.foldl_cons]
    refine ⟨?_, by omega, fun b hb => ?_⟩
    · rcases h1 with e | m
      · rw [e]
        rcases Int.le_total a x with q | q
        · right; rw [Int.max_eq_right q]; exact List.mem_cons_self
        · left; exact Int.max_eq_left q
      · right; exact List.mem_cons_of_mem _ m
    · rcases List.mem_cons.mp hb with rfl | m
      · omega
      · exact h3 b m
theorem foldl_min (l : List Int) : ∀ a : Int, (l.foldl min a = a ∨ l.foldl min a ∈ l) ∧ l.foldl min a ≤ a ∧ ∀ b ∈ l, l.foldl min a ≤ b := by
  induction l with
  | nil => intro a; simp
  | cons x l ih =>
    intro a
    obtain ⟨h1, h2, h3⟩ := ih (min a x)
    rw [List.foldl_cons]
    refine ⟨?_, by omega, fun b hb => ?_⟩
    · rcases h1 with e | m
      · rw [e]
        rcases Int.le_total a x with q | q
        · left; exact Int.min_eq_left q
        · right; rw [Int.min_eq_right q]; exact List.mem_cons_self
      · right; exact List.mem_cons_of_mem _ m
    · rcases List.mem_cons.mp hb with rfl | m
      · omega
      · exact h3 b m
theorem mxL_facts {l : List Int} (h : l ≠ []) : mxL l ∈ l ∧ ∀ a ∈ l, a ≤ mxL l := by
  cases l with
  | nil => exact absurd rfl h
  | cons a l =>
    obtain ⟨h1, h2, h3⟩ := foldl_max l a
    refine ⟨?_, fun b hb => ?_⟩
    · rcases h1 with e | m
      · show l.foldl max a ∈ _; rw [e]; exact List.mem_cons_self
      · exact List.mem_cons_of_mem _ m
    · rcases List.mem_cons.mp hb with rfl | m
      · exact h2
      · exact h3 b m
theorem mnL_facts {l : List Int} (h : l ≠ []) : mnL l ∈ l ∧ ∀ a ∈ l, mnL l ≤ a := by
  cases l with
  | nil => exact absurd rfl h
  | cons a l =>
    obtain ⟨h1, h2, h3⟩ := foldl_min l a
    refine ⟨?_, fun b hb => ?_⟩
    · rcases h1 with e | m
      · show l.foldl min a ∈ _; rw [e]; exact List.mem_cons_self
      · exact List.mem_cons_of_mem _ m
    · rcases List.mem_cons.mp hb with rfl | m
      · exact h2
      · exact h3 b m

def idsI (n : Nat) : List Int := (List.range n).map fun (j : Nat) => (j : Int)
def spanD (d : List Int) (n : Nat) : List Int := (List.range n).map fun (j : Nat) => mxL (d.take (j + 1)) - mnL (d.take (j + 1))
def nearD (d : List Int) (n : Nat) : Bool := decide (spanD d n = idsI n)
def lowsD (d : List Int) (n : Nat) : List Int := (idsI n).filter fun i => decide (d.getD i.toNat 0 ≤ d.getD 0 0)
def againD (d : List Int) (n : Nat) : Bool := decide (riffled (lowsD d n) n = d)
def piecesD (d : List Int) (n : Nat) : List (List Bool) := (List.range n).map fun (j : Nat) => pcs d (fullsD n) [((j + 1 : Nat) : Int), 0, 7] 1

def forBody : List Stmt := match lawStmt 12 with
  | .For _ _ b _ _ => b
  | _ => []
def deckStmt (i : Nat) : Stmt := (forBody[i]?).getD (.Pass ⟨0, 0, 0, 0⟩)
@[irreducible] def deckTail (i : Nat) : List Stmt := forBody.drop i

section
variable {C : Cx} {bl br ins rif dr ini eqf gi pf la : Addr} {fl fr fi ff fw fii fe fg fp fla : FuncData}
variable {B : Org} {own : List Addr} {s : Shared} {ρ : Rho} {lst : Lst} {Q : Flow → Shared → Prop} {E : Value → Shared → Prop} {A : Around} {env : Env}

theorem dk0 (X : LFacts C bl br ins rif dr ini eqf gi pf la fl fr fi ff fw fii fe fg fp fla) (V : LawAt C la fla env) {d : List Int} {n : Nat} (hn : n ≤ 8) (hr : d.length = n) (o : Ok 19 A) (W : Fw C env B s own ρ lst)
    (h3 : ρ (K "deck") = some (.cl (.il d))) (h4 : ρ (K "size") = some (.cl (.int n)))
    (k : ∀ s', Fw C env B s' own (ρ.set (K "near") (.cl (.bool (nearD d n)))) lst → wpAny C.M A (execs (deckTail 1) env) Q E s') : wpAny C.M A (execs (deckTail 0) env) Q E s := by
  rw [show deckTail 0 = deckStmt 0 :: deckTail 1 from by unfold deckTail; rfl]
  refine st_assign (d := .bool (nearD d n)) o W (pe_cmp (PE.cast (d' := .il (spanD d n)) (PL.pe (CompOK.pl (co_over (src := List.range n) (f := fun j => .int ((j + 1 : Nat) : Int)) (g := fun j => .int (mxL (d.take (j + 1)) - mnL (d.take (j + 1)))) (p := fun _ => true) (V.cs rfl)
    (pe_call (d := .rng 1 1 n) (V.gn rfl (.inr ⟨X.D.range, X.D.range'⟩)) (pel_cons pe_int (pel_cons (pe_bin (pe_name (d := .int n) (by walk_at "nm")) pe_int op_add) pel_nil)) (opn_range2 (by omega) (by omega) (by omega) (by omega) (by omega)) (.inr (.inl ⟨_, rfl⟩)))
    (.inr (.inr ⟨1, 1, by simp, fun i v e => by rw [range_src e]; congr 1; push_cast; omega⟩)) (by simp; omega) rfl (by decide) (fun a c₀ hm => ct_nil) (fun a c₀ hm _ => ?bd)))) ?fc)
    (PE.cast (d' := .il (idsI n)) (PL.pe (pl_list_range (m := n) (V.gn rfl (.inr ⟨X.D.list, X.D.list'⟩)) (pe_call (d := .rng 0 1 n) (V.gn rfl (.inr ⟨X.D.range, X.D.range'⟩)) (pel_cons (pe_name (d := .int n) (by walk_at "nm")) pel_nil) (opn_range1 (by omega) (by omega) (by omega)) (.inr (.inl ⟨_, rfl⟩))) (by omega))) ?ids)
    (op_eq (fit_il _) (fit_il _) (eqv_il _ _))) (V.st rfl) k
  case fc =>
    rw [filter_true]
    unfold spanD
    show D.list _ = D.list _
    rw [List.map_map]; rfl
  case ids =>
    unfold idsI
    show D.list _ = D.list _
    rw [List.map_map]
    congr 1
    apply List.map_congr_left
    intro j _
    simp
  case bd =>
    have ha := List.mem_range.mp hm
    have hne : d.take (a + 1) ≠ [] := by
      intro e
      have := congrArg List.length e
      rw [List.length_take, List.length_nil] at this
      omega
    obtain ⟨m1, m2⟩ := mxL_facts hne
    obtain ⟨m3, m4⟩ := mnL_facts hne
    refine pe_bin (pe_call ⟨comp_global rfl, .inr ⟨X.max, X.max'⟩⟩ (pel_cons (PE.cast (d' := .il (d.take (a + 1))) (PL.pe (pl_slice (a := none) (b := some ((a + 1 : Nat) : Int)) (c := none) (pe_name (d := .il d) (by walk_at "nm")) .none (.some (pe_name (d := .int ((a + 1 : Nat) : Int)) (by walk_at "nm"))) .none (by simp) (by simp; omega))) ?p1) pel_nil) (opn_max m1 m2) (.inl ⟨_, rfl⟩))
      (pe_call ⟨comp_global rfl, .inr ⟨X.min, X.min'⟩⟩ (pel_cons (PE.cast (d' := .il (d.take (a + 1))) (PL.pe (pl_slice (a := none) (b := some ((a + 1 : Nat) : Int)) (c := none) (pe_name (d := .il d) (by walk_at "nm")) .none (.some (pe_name (d := .int ((a + 1 : Nat) : Int)) (by walk_at "nm"))) .none (by simp) (by simp; omega))) ?p2) pel_nil) (opn_min m3 m4) (.inl ⟨_, rfl⟩)) op_sub
    case p1 => rw [picks_map, picks_to d (by omega)]
    case p2 => rw [picks_map, picks_to d (by omega)]
end
end Mine

-- part M41
namespace Mine
open PySem PySem.W PyProof.Rows

local macro_rules | `(tactic| walk_at "nm") => `(tactic| repeat' (first | assumption | exact Rho.same | exact Rho.bor_same | refine Rho.only_in (by decide) ?_ | refine Rho.bor_ne (by decide) ?_ | refine Rho.ne (by decide) ?_))

section
variable {C : Cx} {bl br ins rif dr ini eqf gi pf la : Addr} {fl fr fi ff fw fii fe fg fp fla : FuncData}
variable {B : Org} {own : List Addr} {s : Shared} {ρ : Rho} {lst : Lst} {Q : Flow → Shared → Prop} {E : Value → Shared → Prop} {A : Around} {env : Env}

theorem dk1 (X : LFacts C bl br ins rif dr ini eqf gi pf la fl fr fi ff fw fii fe fg fp fla) (V : LawAt C la fla env) {d : List Int} {n : Nat} (hn : n ≤ 8) (hr : d.length = n) (o : Ok 19 A) (W : Fw C env B s own ρ lst)
    (h3 : ρ (K "deck") = some (.cl (.il d))) (h4 : ρ (K "size") = some (.cl (.int n)))
    (k : ∀ s', Fw C env B s' own (ρ.set (K "again") (.cl (.bool (againD d n)))) lst → wpAny C.M A (execs (deckTail 2) env) Q E s') : wpAny C.M A (execs (deckTail 1) env) Q E s := by
  rw [show deckTail 1 = deckStmt 1 :: deckTail 2 from by unfold deckTail; rfl]
  have hlen : (lowsD d n).length ≤ 8 := Nat.le_trans (List.length_filter_le _ _) (by simp [idsI]; omega)
  refine st_assign (d := .bool (againD d n)) o W (pe_cmp (pe_call (V.gn rfl (.inl X.D.nrif)) (pel_cons (PE.cast (d' := .il (lowsD d n)) (PL.pe (CompOK.pl (co_over (src := idsI n) (f := .int) (g := .int) (p := fun i => decide (d.getD i.toNat 0 ≤ d.getD 0 0)) (V.cs rfl)
    (pe_call (d := .rng 0 1 n) (V.gn rfl (.inr ⟨X.D.range, X.D.range'⟩)) (pel_cons (pe_name (d := .int n) (by walk_at "nm")) pel_nil) (opn_range1 (by omega) (by omega) (by omega)) (.inr (.inl ⟨_, rfl⟩)))
    (.inr (.inr ⟨0, 1, by simp [idsI], fun i v e => ?rg⟩)) (by simp [idsI]; omega) rfl (by decide) (fun a c₀ hm => ct_one ?tst) (fun a c₀ hm _ => pe_name (by walk_at "nm"))))) rfl) (pel_cons (pe_name (d := .int n) (by walk_at "nm")) pel_nil)) ((rif_spec X.D.toRFacts (by omega) (by omega)).le (by decide)) (.inr (.inr X.D.hrif.atK)))
    (pe_name (d := .il d) (by walk_at "nm")) (op_eq (fit_il _) (fit_il _) (eqv_il _ _))) (V.st rfl) k
  case rg =>
    unfold idsI at e
    rw [List.getElem?_map] at e
    obtain ⟨j, e1, rfl⟩ := Option.map_eq_some_iff.mp e
    rw [range_src e1]; simp
  case tst =>
    obtain ⟨j, hj, rfl⟩ := List.mem_map.mp hm
    have hj := List.mem_range.mp hj
    refine pt_cmp (pe_item (i := ((j : Nat) : Int)) (ds := d.map .int) (pe_name (d := .il d) (by walk_at "nm")) (pe_name (d := .int (j : Nat)) (by walk_at "nm")) (by omega) ?i1 (by omega)) (pe_item (i := 0) (ds := d.map .int) (pe_name (d := .il d) (by walk_at "nm")) pe_int (by decide) ?i2 (by decide)) op_le
    case i1 => rw [List.getElem?_map, List.getD_eq_getElem?_getD, List.getElem?_eq_getElem (by omega)]; rfl
    case i2 =>
      show (List.map D.int d)[0]? = _
      rw [List.getElem?_map, List.getD_eq_getElem?_getD, List.getElem?_eq_getElem (by omega)]; rfl

theorem sq_count (j : Nat) (h : j < 8) : SqOk [((j + 1 : Nat) : Int), 0, 7] 1 where
  z1 := Nat.le_refl _
  zl := by simp
  z0 := rfl
  zn := fun i hi => by
    have : i = 0 := by omega
    subst this
    show ((j + 1 : Nat) : Int) ≠ 0
    omega
  cm := fun i hi => by
    have : i = 0 ∨ i = 1 := by omega
    rcases this with rfl | rfl
    · show ((j + 1 : Nat) : Int) ≠ 127
      omega
    · show (0 : Int) ≠ 127
      decide
theorem sq_pos (j : Nat) : ∀ i, 1 ≤ sqAt [((j + 1 : Nat) : Int), 0, 7] 1 i := fun i => by
  unfold sqAt
  split
  · have : i = 0 := by omega
    subst this
    show 1 ≤ ((j + 1 : Nat) : Int)
    omega
  · show 1 ≤ ((j + 1 : Nat) : Int)
    omega

theorem dk2 (X : LFacts C bl br ins rif dr ini eqf gi pf la fl fr fi ff fw fii fe fg fp fla) (V : LawAt C la fla env) {d : List Int} {n : Nat} (hn : n ≤ 8) (hr : d.length = n) (o : Ok 19 A) (W : Fw C env B s own ρ lst)
    (h3 : ρ (K "deck") = some (.cl (.il d))) (h4 : ρ (K "size") = some (.cl (.int n))) (h5 : ρ (K "fulls") = some (.cl (D.wsl (fullsD n))))
    (k : ∀ s', Fw C env B s' own (ρ.set (K "pieces") (.cl (.list ((piecesD d n).map .bl)))) lst → wpAny C.M A (execs (deckTail 3) env) Q E s') : wpAny C.M A (execs (deckTail 2) env) Q E s := by
  rw [show deckTail 2 = deckStmt 2 :: deckTail 3 from by unfold deckTail; rfl]
  refine CompOK.st (CompOK.cast (ds' := (piecesD d n).map .bl) (co_over (src := List.range n) (f := fun j => .int ((j + 1 : Nat) : Int)) (g := fun j => .bl (pcs d (fullsD n) [((j + 1 : Nat) : Int), 0, 7] 1)) (p := fun _ => true) (V.cs rfl)
    (pe_call (d := .rng 1 1 n) (V.gn rfl (.inr ⟨X.D.range, X.D.range'⟩)) (pel_cons pe_int (pel_cons (pe_bin (pe_name (d := .int n) (by walk_at "nm")) pe_int op_add) pel_nil)) (opn_range2 (by omega) (by omega) (by omega) (by omega) (by omega)) (.inr (.inl ⟨_, rfl⟩)))
    (.inr (.inr ⟨1, 1, by simp, fun i v e => by rw [range_src e]; congr 1; push_cast; omega⟩)) (by simp; omega) rfl (by decide) (fun a c₀ hm => ct_nil) (fun a c₀ hm _ => ?bd)) ?fc) o W (V.st rfl) k (V.sw1 rfl rfl)
  case fc =>
    rw [filter_true]
    unfold piecesD
    rw [List.map_map]; rfl
  case bd =>
    have ha := List.mem_range.mp hm
    exact pe_call ⟨comp_global rfl, .inl X.P.npf⟩ (pel_cons (pe_name (d := .il d) (by walk_at "nm")) (pel_cons (PE.cast (d' := .il [((a + 1 : Nat) : Int), 0, 7]) (PL.pe (pl_list (pel_cons (pe_name (d := .int ((a + 1 : Nat) : Int)) (by walk_at "nm")) (pel_cons pe_int (pel_cons pe_int pel_nil))) (by simp))) rfl) (pel_cons (pe_name (d := D.wsl (fullsD n)) (by walk_at "nm")) pel_nil)))
      ((pcs_spec X.P (by omega) (sq_count a (by omega)) (sq_pos a) (by simp [fullsD]; omega)).le (by decide)) (.inr (.inr X.P.hpf.atK))
end
end Mine

-- part M42
namespace Mine
open PySem PySem.W PyProof.Rows

local macro_rules | `(tactic| walk_at "nm") => `(tactic| repeat' (first | assumption | exact Rho.same | exact Rho.bor_same | refine Rho.only_in (by decide) ?_ | refine Rho.bor_ne (by decide) ?_ | refine Rho.ne (by decide) ?_))

def lensD (ps : List (List Bool)) : List Int := ps.map fun f => (f.length : Int)
def quotD (n : Nat) : List Int := (List.range n).map fun (j : Nat) => (n : Int).fdiv ((j + 1 : Nat) : Int)
def firstsD (ps : List (List Bool)) : List Bool := ps.map fun f => f.getD 0 false

section
variable {C : Cx} {bl br ins rif dr ini eqf gi pf la : Addr} {fl fr fi ff fw fii fe fg fp fla : FuncData}
variable {B : Org} {own : List Addr} {s : Shared} {ρ : Rho} {lst : Lst} {Q : Flow → Shared → Prop} {E : Value → Shared → Prop} {A : Around} {env : Env}

theorem pt_name {m : Nat} {x : Str} {p : Pos} {b : Bool} (h : PE C m env ρ (.Name x p) (.bool b)) : PT C m env ρ (.Name x p) b := by
  intro A own lst s Q E o I F k
  refine wpAny_isTrue_value (h A own lst s _ _ o I F fun v s₁ x₁ r => ?_)
  simp only [Rep] at r
  subst r
  exact wpAny_truthy_bool (k _ x₁)

theorem dk3 (X : LFacts C bl br ins rif dr ini eqf gi pf la fl fr fi ff fw fii fe fg fp fla) (V : LawAt C la fla env) {ps : List (List Bool)} {n : Nat} (hn : n ≤ 8) (hp : ps.length = n) (hb : ∀ f ∈ ps, f.length ≤ 9) (hq : lensD ps = quotD n) (o : Ok 19 A) (W : Fw C env B s own ρ lst)
    (h3 : ρ (K "pieces") = some (.cl (.list (ps.map .bl)))) (h4 : ρ (K "size") = some (.cl (.int n)))
    (k : ∀ s', Fw C env B s' own ρ lst → wpAny C.M A (execs (deckTail 4) env) Q E s') : wpAny C.M A (execs (deckTail 3) env) Q E s := by
  rw [show deckTail 3 = deckStmt 3 :: deckTail 4 from by unfold deckTail; rfl]
  refine st_no o W (pt_cmp (PE.cast (d' := .il (lensD ps)) (PL.pe (CompOK.pl (co_over (src := ps) (f := .bl) (g := fun f => .int (f.length : Int)) (p := fun _ => true) (V.cs rfl) (pe_name (d := .list (ps.map .bl)) (by walk_at "nm")) (.inl rfl) (by omega) rfl (by decide) (fun a c₀ hm => ct_nil) (fun a c₀ hm _ => ?b1)))) ?f1)
    (PE.cast (d' := .il (quotD n)) (PL.pe (CompOK.pl (co_over (src := List.range n) (f := fun j => .int ((j + 1 : Nat) : Int)) (g := fun j => .int ((n : Int).fdiv ((j + 1 : Nat) : Int))) (p := fun _ => true) (V.cs rfl)
    (pe_call (d := .rng 1 1 n) (V.gn rfl (.inr ⟨X.D.range, X.D.range'⟩)) (pel_cons pe_int (pel_cons (pe_bin (pe_name (d := .int n) (by walk_at "nm")) pe_int op_add) pel_nil)) (opn_range2 (by omega) (by omega) (by omega) (by omega) (by omega)) (.inr (.inl ⟨_, rfl⟩)))
    (.inr (.inr ⟨1, 1, by simp, fun i v e => by rw [range_src e]; congr 1; push_cast; omega⟩)) (by simp; omega) rfl (by decide) (fun a c₀ hm => ct_nil) (fun a c₀ hm _ => ?b2)))) ?f2)
    (op_ne (fit_il _) (fit_il _) (eqv_il _ _))) (by rw [decide_eq_true hq]; rfl) k
  case f1 =>
    rw [filter_true]; unfold lensD; show D.list _ = D.list _; rw [List.map_map]; rfl
  case f2 =>
    rw [filter_true]; unfold quotD; show D.list _ = D.list _; rw [List.map_map]; rfl
  case b1 =>
    have := hb a hm
    exact PE.cast (pe_call ⟨comp_global rfl, .inr ⟨X.D.len, X.D.len'⟩⟩ (pel_cons (pe_name (d := .bl a) (by walk_at "nm")) pel_nil) (opn_len (by simp; omega)) (.inl ⟨_, rfl⟩)) (by simp)
  case b2 =>
    have ha := List.mem_range.mp hm
    exact pe_bin (pe_name (d := .int n) (by walk_at "nm")) (pe_name (d := .int ((a + 1 : Nat) : Int)) (by walk_at "nm")) (op_div (by omega) (PyProof.noPylong_small (by omega)))

theorem dk4 (V : LawAt C la fla env) {ps : List (List Bool)} (hp : ps.length ≤ 8) (hb : ∀ f ∈ ps, f ≠ []) (o : Ok 19 A) (W : Fw C env B s own ρ lst)
    (h3 : ρ (K "pieces") = some (.cl (.list (ps.map .bl))))
    (k : ∀ s', Fw C env B s' own (ρ.set (K "firsts") (.cl (.bl (firstsD ps)))) lst → wpAny C.M A (execs (deckTail 5) env) Q E s') : wpAny C.M A (execs (deckTail 4) env) Q E s := by
  rw [show deckTail 4 = deckStmt 4 :: deckTail 5 from by unfold deckTail; rfl]
  refine CompOK.st (CompOK.cast (ds' := (firstsD ps).map .bool) (co_over (src := ps) (f := .bl) (g := fun f => .bool (f.getD 0 false)) (p := fun _ => true) (V.cs rfl) (pe_name (d := .list (ps.map .bl)) (by walk_at "nm")) (.inl rfl) (by omega) rfl (by decide) (fun a c₀ hm => ct_nil) (fun a c₀ hm _ => ?b1)) ?f1) o W (V.st rfl) k (V.sw1 rfl rfl)
  case f1 => rw [filter_true]; unfold firstsD; rw [List.map_map]; rfl
  case b1 =>
    refine PE.cast (pe_cmp (pe_item (i := 0) (ds := a.map .bool) (d := .bool (a.getD 0 false)) (pe_name (d := .bl a) (by walk_at "nm")) pe_int (by decide) ?it (by decide)) (pe_bool (b := true)) op_isbool) (by simp)
    case it =>
      have := hb a hm
      cases a with
      | nil => exact absurd rfl this
      | cons x l => rfl

theorem dk5 (V : LawAt C la fla env) {ps : List (List Bool)} (hp : ps.length ≤ 8) (hb : ps.flatten.length ≤ 100) (o : Ok 19 A) (W : Fw C env B s own ρ lst)
    (h3 : ρ (K "pieces") = some (.cl (.list (ps.map .bl))))
    (k : ∀ s', Fw C env B s' own (ρ.set (K "whole") (.cl (.bl ps.flatten))) lst → wpAny C.M A (execs (deckTail 6) env) Q E s') : wpAny C.M A (execs (deckTail 5) env) Q E s := by
  rw [show deckTail 5 = deckStmt 5 :: deckTail 6 from by unfold deckTail; rfl]
  exact CompOK.st (ds := ps.flatten.map .bool) (co_two (src := ps) (f := .bool) (g := .bool) (V.cs rfl) (pe_name (d := .list (ps.map .bl)) (by walk_at "nm")) (by omega) rfl rfl (by decide) (by decide) (fun l c₀ hm => pe_name (d := .bl l) (by walk_at "nm")) (by decide)
    (fun l a c₀ => PE.cast (pe_cmp (pe_name (d := .bool a) (by walk_at "nm")) (pe_bool (b := true)) op_isbool) (by simp))) o W (V.st rfl) k (V.sw1 rfl rfl)

theorem dk6 {near again : Bool} {fs wh : List Bool} (e1 : again = near) (e2 : (!decide (false ∈ if near = true then wh else fs)) = near) (o : Ok 19 A) (W : Fw C env B s own ρ lst)
    (h1 : ρ (K "near") = some (.cl (.bool near))) (h2 : ρ (K "again") = some (.cl (.bool again))) (h3 : ρ (K "firsts") = some (.cl (.bl fs))) (h4 : ρ (K "whole") = some (.cl (.bl wh)))
    (k : ∀ s', Fw C env B s' own ρ lst → Q .next s') : wpAny C.M A (execs (deckTail 6) env) Q E s := by
  rw [show deckTail 6 = [deckStmt 6] from by unfold deckTail; rfl]
  refine st_no o W (pt_or (pt_cmp (pe_name (d := .bool again) (by walk_at "nm")) (pe_name (d := .bool near) (by walk_at "nm")) op_isnotbool)
    (fun _ => pt_cmp (pe_cmp (pe_bool (b := false)) (pe_if (d := .bl (if near = true then wh else fs)) (pt_name (pe_name (d := .bool near) (by walk_at "nm"))) (fun e => PE.cast (pe_name (d := .bl wh) (by walk_at "nm")) (by rw [if_pos e])) (fun e => PE.cast (pe_name (d := .bl fs) (by walk_at "nm")) (by rw [e]; rfl))) op_notin) (pe_name (d := .bool near) (by walk_at "nm")) op_isnotbool)) (by rw [e2, e1]; simp) fun s₂ W => st_nil (k s₂ W)
end
end Mine

-- part M43
namespace Mine
open PySem PySem.W PyProof.Rows

local macro_rules | `(tactic| walk_at "nm") => `(tactic| repeat' (first | assumption | exact Rho.same | exact Rho.bor_same | refine Rho.only_in (by decide) ?_ | refine Rho.bor_ne (by decide) ?_ | refine Rho.ne (by decide) ?_))

/-- what the names of law hold from the loop on -/
structure LS (ρ : Rho) (cs : List Int) (n : Nat) (rd bd dd : List Int) (one two : Int) : Prop where
  cells : ρ (K "cells") = some (.cl (.il cs))
  size : ρ (K "size") = some (.cl (.int n))
  fulls : ρ (K "fulls") = some (.cl (D.wsl (fullsD n)))
  rif : ρ (K "riffled") = some (.cl (.il rd))
  one : ρ (K "one") = some (.cl (.int one))
  two : ρ (K "two") = some (.cl (.int two))
  bent : ρ (K "bent") = some (.cl (.il bd))
  drawn : ρ (K "drawn") = some (.cl (.il dd))
def lsNames : List Str := [K "cells", K "size", K "fulls", K "riffled", K "one", K "two", K "bent", K "drawn"]
theorem LS.set {ρ : Rho} {cs : List Int} {n : Nat} {rd bd dd : List Int} {one two : Int} (h : LS ρ cs n rd bd dd one two) {x : Str} {p : Sp} (hx : (lsNames.all fun y => !(y == x)) = true) : LS (ρ.set x p) cs n rd bd dd one two := by
  have key : ∀ y ∈ lsNames, (y == x) = false := fun y m => by
    have := List.all_eq_true.mp hx y m
    simpa using this
  unfold lsNames at key
  exact ⟨Rho.ne (key _ (by simp)) h.cells, Rho.ne (key _ (by simp)) h.size, Rho.ne (key _ (by simp)) h.fulls, Rho.ne (key _ (by simp)) h.rif, Rho.ne (key _ (by simp)) h.one, Rho.ne (key _ (by simp)) h.two, Rho.ne (key _ (by simp)) h.bent, Rho.ne (key _ (by simp)) h.drawn⟩

structure DeckOk (d : List Int) (n : Nat) : Prop where
  len : d.length = n
  lens : lensD (piecesD d n) = quotD n
  e1 : againD d n = nearD d n
  e2 : (!decide (false ∈ if nearD d n = true then (piecesD d n).flatten else firstsD (piecesD d n))) = nearD d n
theorem DeckOk.count {d : List Int} {n : Nat} (h : DeckOk d n) (hn : n ≤ 8) {f : List Bool} (m : f ∈ piecesD d n) : 1 ≤ f.length ∧ f.length ≤ 8 := by
  have h1 : (f.length : Int) ∈ quotD n := by rw [← h.lens]; exact List.mem_map.mpr ⟨f, m, rfl⟩
  obtain ⟨j, hj, e⟩ := List.mem_map.mp h1
  have hj := List.mem_range.mp hj
  rw [Int.fdiv_eq_ediv_of_nonneg _ (by omega)] at e
  have h2 : ((j + 1 : Nat) : Int) ≤ n := by omega
  have h3 : (n : Int) / ((j + 1 : Nat) : Int) ≤ n := Int.ediv_le_self _ (by omega)
  have h4 : 1 ≤ (n : Int) / ((j + 1 : Nat) : Int) := Int.le_ediv_of_mul_le (by omega) (by omega)
  omega
theorem pieces_len (d : List Int) (n : Nat) : (piecesD d n).length = n := by simp [piecesD]

section
variable {C : Cx} {bl br ins rif dr ini eqf gi pf la : Addr} {fl fr fi ff fw fii fe fg fp fla : FuncData}
variable {B : Org} {own : List Addr} {s : Shared} {ρ : Rho} {lst : Lst} {Q : Flow → Shared → Prop} {E : Value → Shared → Prop} {A : Around} {env : Env}

theorem deck_body (X : LFacts C bl br ins rif dr ini eqf gi pf la fl fr fi ff fw fii fe fg fp fla) (V : LawAt C la fla env) {d : List Int} {n : Nat} (hn : n ≤ 8) (h : DeckOk d n) (o : Ok 19 A) (W : Fw C env B s own ρ lst)
    {cs rd bd dd : List Int} {one two : Int} (H : LS ρ cs n rd bd dd one two) (h3 : ρ (K "deck") = some (.cl (.il d)))
    (k : ∀ s' ρ', Fw C env B s' own ρ' lst → LS ρ' cs n rd bd dd one two → Q .next s') : wpAny C.M A (execs (deckTail 0) env) Q E s := by
  have hs := H.size
  have hf := H.fulls
  have hc : ∀ f ∈ piecesD d n, 1 ≤ f.length ∧ f.length ≤ 8 := fun f m => h.count hn m
  have hp := pieces_len d n
  refine dk0 X V hn h.len o W (by walk_at "nm") (by walk_at "nm") fun s₁ W => ?_
  refine dk1 X V hn h.len o W (by walk_at "nm") (by walk_at "nm") fun s₂ W => ?_
  refine dk2 X V hn h.len o W (by walk_at "nm") (by walk_at "nm") (by walk_at "nm") fun s₃ W => ?_
  refine dk3 X V hn hp (fun f m => by have := hc f m; omega) h.lens o W (by walk_at "nm") (by walk_at "nm") fun s₄ W => ?_
  refine dk4 (ps := piecesD d n) V (by omega) (fun f m e => by have := hc f m; rw [e] at this; simp at this) o W (by walk_at "nm") fun s₅ W => ?_
  refine dk5 (ps := piecesD d n) V (by omega) ?fl o W (by walk_at "nm") fun s₆ W => ?_
  case fl =>
    have h1 := flat_le (l := piecesD d n) (B := 8) fun f m => (hc f m).2
    omega
  refine dk6 (near := nearD d n) (again := againD d n) (fs := firstsD (piecesD d n)) (wh := (piecesD d n).flatten) h.e1 h.e2 o W (by walk_at "nm") (by walk_at "nm") (by walk_at "nm") (by walk_at "nm") fun s₇ W => k s₇ _ W ?_
  exact ((((H.set (by decide)).set (by decide)).set (by decide)).set (by decide)).set (by decide)

theorem deck_src {rd bd dd : List Int} : IsSrc (.tuple [.il rd, .il bd, .il dd]) 3 (fun i => .il (([rd, bd, dd] : List (List Int)).getD i [])) := by
  refine .tuple rfl fun i d e => ?_
  match i, e with
  | 0, e => cases e; rfl
  | 1, e => cases e; rfl
  | 2, e => cases e; rfl
  | i + 3, e => simp at e
theorem deck_oks {rd bd dd : List Int} {n : Nat} (g1 : DeckOk rd n) (g2 : DeckOk bd n) (g3 : DeckOk dd n) : ∀ i, i < 3 → DeckOk (([rd, bd, dd] : List (List Int)).getD i []) n
  | 0, _ => g1
  | 1, _ => g2
  | 2, _ => g3
theorem law12 (X : LFacts C bl br ins rif dr ini eqf gi pf la fl fr fi ff fw fii fe fg fp fla) (V : LawAt C la fla env) {n : Nat} (hn : n ≤ 8) (o : Ok 19 A) (W : Fw C env B s own ρ noL)
    {cs rd bd dd : List Int} {one two : Int} (H : LS ρ cs n rd bd dd one two) (g1 : DeckOk rd n) (g2 : DeckOk bd n) (g3 : DeckOk dd n)
    (k : ∀ s' own' ρ', Fw C env B s' own' ρ' noL → LS ρ' cs n rd bd dd one two → wpAny C.M A (execs (lawTail 13) env) Q E s') : wpAny C.M A (execs (lawTail 12) env) Q E s := by
  obtain ⟨px, p1, p2, p3, kt, tp, pos, h⟩ : ∃ px p1 p2 p3 kt tp pos, lawTail 12 = Stmt.For (.Name (K "deck") px) (.Tuple [.Name (K "riffled") p1, .Name (K "bent") p2, .Name (K "drawn") p3] kt tp) (deckTail 0) [] pos :: lawTail 13 := ⟨_, _, _, _, _, _, _, by unfold lawTail deckTail; rfl⟩
  rw [h]
  have hr := H.rif
  have hb := H.bent
  have hd := H.drawn
  refine st_for (J := fun i ρ' lst' => LS ρ' cs n rd bd dd one two ∧ lst' = noL) (Jx := fun ρ' lst' => LS ρ' cs n rd bd dd one two ∧ lst' = noL) (d := .tuple [.il rd, .il bd, .il dd]) (n := 3) (dat := fun i => .il (([rd, bd, dd] : List (List Int)).getD i [])) o W
    (PE.ev (pe_tuple (pel_cons (pe_name (d := .il rd) (by walk_at "nm")) (pel_cons (pe_name (d := .il bd) (by walk_at "nm")) (pel_cons (pe_name (d := .il dd) (by walk_at "nm")) pel_nil))) (by simp)) W) deck_src (V.st rfl) ⟨H, rfl⟩ (fun _ _ h => h) ?turn (fun s' own' ρ' lst' ⟨H', e⟩ W' => by subst e; exact k s' own' ρ' W' H')
  case turn =>
    rintro B' i s' own' ρ' lst' hi ⟨H', rfl⟩ W'
    exact deck_body X V hn (deck_oks g1 g2 g3 i hi) o W' (H'.set (by decide)) Rho.same fun s'' ρ'' W'' H'' => ⟨_, _, _, W'', H'', rfl⟩
end
end Mine

-- part M44
namespace Mine
open PySem PySem.W PyProof.Rows

local macro_rules | `(tactic| walk_at "nm") => `(tactic| repeat' (first | assumption | exact Rho.same | exact Rho.bor_same | refine Rho.only_in (by decide) ?_ | refine Rho.bor_ne (by decide) ?_ | refine Rho.ne (by decide) ?_))

def moveAt (one two i a : Int) : Int := if i = one then (if a - 1 > 0 then a - 1 else 0) else if i = two then a + 1 else a
def movedD (bd : List Int) (one two : Int) : List Int := bd.mapIdx fun i a => moveAt one two (i : Nat) a
/-- runs of these lengths, and an end -/
def runsT (l : List Int) (e : List Nat) : List Nat := (l.map fun a => runT a.toNat).flatten ++ e
theorem runsT_len {l : List Int} {n b : Nat} (hl : l.length ≤ n) (hb : ∀ a ∈ l, a ≤ b) : (l.map fun a => runT a.toNat).flatten.length ≤ n * (b + 1) := by
  have h1 := flat_le (l := l.map fun a => runT a.toNat) (B := b + 1) (fun x hx => by
    obtain ⟨c, hc, rfl⟩ := List.mem_map.mp hx
    have := hb c hc
    rw [runT_len]; omega)
  rw [List.length_map] at h1
  have h2 := Nat.mul_le_mul_right (b + 1) hl
  omega

section
variable {C : Cx} {bl br ins rif dr ini eqf gi pf la : Addr} {fl fr fi ff fw fii fe fg fp fla : FuncData}
variable {B : Org} {own : List Addr} {s : Shared} {ρ : Rho} {lst : Lst} {Q : Flow → Shared → Prop} {E : Value → Shared → Prop} {A : Around} {env : Env}

theorem law13 (X : LFacts C bl br ins rif dr ini eqf gi pf la fl fr fi ff fw fii fe fg fp fla) (V : LawAt C la fla env) {bd : List Int} {one two : Int} (hb : bd.length ≤ 8) (o : Ok 19 A) (W : Fw C env B s own ρ lst)
    (h1 : ρ (K "bent") = some (.cl (.il bd))) (h2 : ρ (K "one") = some (.cl (.int one))) (h3 : ρ (K "two") = some (.cl (.int two)))
    (k : ∀ s', Fw C env B s' own (ρ.set (K "moved") (.cl (.il (movedD bd one two)))) lst → wpAny C.M A (execs (lawTail 14) env) Q E s') : wpAny C.M A (execs (lawTail 13) env) Q E s := by
  rw [show lawTail 13 = lawStmt 13 :: lawTail 14 from by unfold lawTail; rfl]
  refine CompOK.st (CompOK.cast (ds' := (movedD bd one two).map .int) (co_enum (src := bd) (f := .int) (g := fun i a => .int (moveAt one two (i : Nat) a)) (V.cs rfl) (V.gn rfl (.inr ⟨X.enu, X.enu'⟩)) (pe_name (d := .il bd) (by walk_at "nm")) (by omega) rfl rfl (by decide) (by decide) (by decide) (fun i a c₀ hi => ?bd)) ?fc) o W (V.st rfl) k (V.sw1 rfl rfl)
  case fc =>
    apply List.ext_getElem?
    intro i
    simp only [movedD, List.getElem?_map, List.getElem?_mapIdx]
    cases bd[i]? <;> rfl
  case bd =>
    refine pe_if (pt_cmp (pe_name (d := .int (i : Nat)) (by walk_at "nm")) (pe_name (d := .int one) (by walk_at "nm")) op_eqi) (fun e => PE.cast (pe_call ⟨comp_global rfl, .inr ⟨X.max, X.max'⟩⟩ (pel_cons pe_int (pel_cons (pe_bin (pe_name (d := .int a) (by walk_at "nm")) pe_int op_sub) pel_nil)) opn_max2 (.inl ⟨_, rfl⟩)) ?c1)
      (fun e => pe_if (pt_cmp (pe_name (d := .int (i : Nat)) (by walk_at "nm")) (pe_name (d := .int two) (by walk_at "nm")) op_eqi) (fun e' => PE.cast (pe_bin (pe_name (d := .int a) (by walk_at "nm")) pe_int op_add) ?c2) (fun e' => PE.cast (pe_name (d := .int a) (by walk_at "nm")) ?c3))
    case c1 => unfold moveAt; rw [if_pos (show ((i : Nat) : Int) = one by simpa using e)]
    case c2 => unfold moveAt; rw [if_neg (by simpa using e), if_pos (by simpa using e')]
    case c3 => unfold moveAt; rw [if_neg (by simpa using e), if_neg (by simpa using e')]

theorem law14 (X : LFacts C bl br ins rif dr ini eqf gi pf la fl fr fi ff fw fii fe fg fp fla) (V : LawAt C la fla env) {mv : List Int} (hm : mv.length ≤ 8) (hb : ∀ a ∈ mv, 0 ≤ a ∧ a ≤ 9) (o : Ok 19 A) (W : Fw C env B s own ρ lst)
    (h1 : ρ (K "moved") = some (.cl (.il mv)))
    (k : ∀ s', Fw C env B s' own (ρ.set (K "lead") (.cl (.ws (wsOf (tx (runsT mv [120]))).1 ((wsOf (tx (runsT mv [120]))).2 : Nat)))) lst → wpAny C.M A (execs (lawTail 15) env) Q E s') : wpAny C.M A (execs (lawTail 14) env) Q E s := by
  rw [show lawTail 14 = lawStmt 14 :: lawTail 15 from by unfold lawTail; rfl]
  have htl := runsT_len hm (b := 9) fun a m => (hb a m).2
  refine' st_assign ?o ?W ?pe ?st ?k ?hs
  case hs => rfl
  case k => exact k
  case o => exact o
  case W => exact W
  case st => exact V.st rfl
  case pe =>
    refine' pe_callK ?p1 ?p2 ?p3 ?p4
    case p1 => exact V.gn rfl (.inl X.P.ncls)
    case p4 => exact X.P.keepc
    case p3 => exact (opn_ws X.P.toNFacts (by rw [show (tx _).cps.size = (tx _).length from rfl, tx_length]; unfold runsT; rw [List.length_append]; simp only [List.length_cons, List.length_nil]; omega)).le (by decide)
    case p2 =>
      refine' pel_cons ?p5 pel_nil
      refine' pe_bin ?p6 ?p7 ?p8
      case p7 => exact pe_str (x := tx [120])
      case p8 => exact op_adds (by simp only [List.length_cons, List.length_nil]; omega)
      case p6 =>
        refine' pe_join ?p9 ?p10
        case p10 => omega
        case p9 =>
          refine' PE.cast ?p11 ?p12
          case p11 =>
            exact PL.pe (CompOK.pl (co_over (src := mv) (f := .int) (g := fun a => .str (tx (runT a.toNat))) (p := fun _ => true) (V.cs rfl) (pe_name (d := .il mv) (by walk_at "nm")) (.inl rfl) (by omega) rfl (by decide) (fun a c₀ hm => ct_nil) (fun a c₀ hm _ =>
              have ha := hb a hm
              pe_bin (pe_bin (pe_str (x := tx [32])) (PE.cast (d' := .int ((a.toNat : Nat) : Int)) (pe_name (d := .int a) (by walk_at "nm")) (by congr 1; omega)) (op_muls (by omega))) (pe_str (x := tx [9])) (op_adds (by simp; omega)))))
          case p12 =>
            rw [filter_true]
            show D.list _ = D.list _
            rw [List.map_map]; rfl

theorem full_at {n : Nat} : (List.map (fun q : List Int × Nat => D.ws q.1 (q.2 : Int)) (fullsD n))[((n : Nat) : Int).toNat]? = some (.ws ((fullsD n).getD n ([], 0)).1 (((fullsD n).getD n ([], 0)).2 : Int)) := by
  rw [Int.toNat_natCast, List.getElem?_map, List.getD_eq_getElem?_getD, List.getElem?_eq_getElem (by simp [fullsD])]; rfl

theorem law15 (X : LFacts C bl br ins rif dr ini eqf gi pf la fl fr fi ff fw fii fe fg fp fla) (V : LawAt C la fla env) {mv : List Int} {ld : List Int × Nat} {n : Nat} (hn : n ≤ 8) (hm : mv.length ≤ 8) (he : decide (ld = (fullsD n).getD n ([], 0)) = decide (isort mv = idsI n)) (o : Ok 19 A) (W : Fw C env B s own ρ lst)
    (h1 : ρ (K "moved") = some (.cl (.il mv))) (h2 : ρ (K "lead") = some (.cl (.ws ld.1 (ld.2 : Nat)))) (h3 : ρ (K "size") = some (.cl (.int n))) (h4 : ρ (K "fulls") = some (.cl (D.wsl (fullsD n))))
    (k : ∀ s', Fw C env B s' own ρ lst → wpAny C.M A (execs (lawTail 16) env) Q E s') : wpAny C.M A (execs (lawTail 15) env) Q E s := by
  rw [show lawTail 15 = lawStmt 15 :: lawTail 16 from by unfold lawTail; rfl]
  refine st_no o W (pt_cmp (PE.cast (d' := .bool (decide (ld = (fullsD n).getD n ([], 0)))) (pe_equal (ds := ((fullsD n).getD n ([], 0)).1) (c := (((fullsD n).getD n ([], 0)).2 : Int)) X.P.toNFacts X.P.keepe (by walk_at "nm") (pe_item (i := (n : Int)) (pe_name (d := D.wsl (fullsD n)) (by walk_at "nm")) (pe_name (d := .int n) (by walk_at "nm")) (by omega) full_at (by omega)) (by decide)) ?e1)
    (pe_cmp (pe_call (V.gn rfl (.inr ⟨X.srt, X.srt'⟩)) (pel_cons (pe_name (d := .il mv) (by walk_at "nm")) pel_nil) (opn_sorted (by omega)) (.inl ⟨_, rfl⟩)) (PE.cast (d' := .il (idsI n)) (PL.pe (pl_list_range (m := n) (V.gn rfl (.inr ⟨X.D.list, X.D.list'⟩)) (pe_call (d := .rng 0 1 n) (V.gn rfl (.inr ⟨X.D.range, X.D.range'⟩)) (pel_cons (pe_name (d := .int n) (by walk_at "nm")) pel_nil) (opn_range1 (by omega) (by omega) (by omega)) (.inr (.inl ⟨_, rfl⟩))) (by omega))) ?ids) (op_eq (fit_il _) (fit_il _) (eqv_il _ _))) op_isnotbool) ?hc k
  case e1 =>
    show D.bool _ = D.bool (decide (ld = (fullsD n).getD n ([], 0)))
    congr 1
    rw [decide_eq_decide, Prod.ext_iff, Int.natCast_inj]
  case ids =>
    unfold idsI
    show D.list _ = D.list _
    rw [List.map_map]
    congr 1
    apply List.map_congr_left
    intro j _
    simp
  case hc => rw [he]; simp
end
end Mine

-- part M45
namespace Mine
open PySem PySem.W PyProof.Rows

local macro_rules | `(tactic| walk_at "nm") => `(tactic| repeat' (first | assumption | exact Rho.same | exact Rho.bor_same | refine Rho.only_in (by decide) ?_ | refine Rho.bor_ne (by decide) ?_ | refine Rho.ne (by decide) ?_))

def halfD (dd : List Int) : List Int := dd.map fun c => c.fdiv 2
def halfT (dd : List Int) (one : Nat) : List Nat := ((halfD dd).map fun a => runT a.toNat).flatten ++ List.replicate one 32 ++ [120]
def normD (n : Nat) : List Int := List.replicate (n / 2) 2 ++ List.replicate (n % 2) 1
def stepD (c : Int) : Nat := (1 + c.fmod 3).toNat
def rulerD (st : Nat) : List Int := [(st : Int), st, 2 * st, 4 * st, 0]
def doubD (rd : List Int) (n st : Nat) : List Bool := pcs rd (fullsD n) (rulerD st) 4
def totD (n st : Nat) : List Bool := (([(st : Int), 2 * st, 4 * st, 8 * st] : List Int).filter fun t : Int => decide (t ≤ (n : Int))).map fun _ => true
theorem half_at {c : Int} (h : 0 ≤ c ∧ c ≤ 9) : 0 ≤ c.fdiv 2 ∧ c.fdiv 2 ≤ 9 := by
  rw [Int.fdiv_eq_ediv_of_nonneg _ (by decide)]; omega
theorem half_bound {dd : List Int} (hb : ∀ a ∈ dd, 0 ≤ a ∧ a ≤ 9) : ∀ a ∈ halfD dd, 0 ≤ a ∧ a ≤ 9 := fun a m => by
  obtain ⟨c, hc, rfl⟩ := List.mem_map.mp m
  exact half_at (hb c hc)

section
variable {C : Cx} {bl br ins rif dr ini eqf gi pf la : Addr} {fl fr fi ff fw fii fe fg fp fla : FuncData}
variable {B : Org} {own : List Addr} {s : Shared} {ρ : Rho} {lst : Lst} {Q : Flow → Shared → Prop} {E : Value → Shared → Prop} {A : Around} {env : Env}

theorem op_mul {m : Nat} {a b : Int} (ha : 0 ≤ a ∧ a < 2 ^ 20) (hb : 0 ≤ b ∧ b < 2 ^ 20) : Op2 C m (binaryOp .Mult) (.int a) (.int b) (.int (a * b)) := by
  rintro A own s _ _ Q E o I ⟨t, rfl⟩ ⟨u, rfl⟩ k
  obtain ⟨a1, a2⟩ := ha
  obtain ⟨b1, b2⟩ := hb
  exact PyProof.Rows.mul_int (k _ _ (.tok _ _ _) ⟨_, rfl⟩)
theorem law16 (X : LFacts C bl br ins rif dr ini eqf gi pf la fl fr fi ff fw fii fe fg fp fla) (V : LawAt C la fla env) {dd : List Int} {one : Nat} (h8 : one ≤ 8) (hm : dd.length ≤ 8) (hb : ∀ a ∈ dd, 0 ≤ a ∧ a ≤ 9) (o : Ok 19 A) (W : Fw C env B s own ρ lst)
    (h1 : ρ (K "drawn") = some (.cl (.il dd))) (h2 : ρ (K "one") = some (.cl (.int one)))
    (k : ∀ s', Fw C env B s' own (ρ.set (K "halved") (.cl (.ws (wsOf (tx (halfT dd one))).1 ((wsOf (tx (halfT dd one))).2 : Nat)))) lst → wpAny C.M A (execs (lawTail 17) env) Q E s') : wpAny C.M A (execs (lawTail 16) env) Q E s := by
  rw [show lawTail 16 = lawStmt 16 :: lawTail 17 from by unfold lawTail; rfl]
  have htl := runsT_len (l := halfD dd) (n := 8) (b := 9) (by simpa [halfD] using hm) fun a m => (half_bound hb a m).2
  refine' st_assign ?o ?W ?pe ?st ?k ?hs
  case hs => rfl
  case k => exact k
  case o => exact o
  case W => exact W
  case st => exact V.st rfl
  case pe =>
    refine' pe_callK ?p1 ?p2 ?p3 ?p4
    case p1 => exact V.gn rfl (.inl X.P.ncls)
    case p4 => exact X.P.keepc
    case p3 => exact (opn_ws X.P.toNFacts (by rw [show (tx _).cps.size = (tx _).length from rfl, tx_length]; unfold halfT; rw [List.length_append, List.length_append, List.length_replicate]; simp only [List.length_cons, List.length_nil]; omega)).le (by decide)
    case p2 =>
      refine' pel_cons ?p5 pel_nil
      refine' pe_bin ?p6 ?p7 ?p8
      case p7 => exact pe_str (x := tx [120])
      case p8 => exact op_adds (by rw [List.length_append, List.length_replicate]; simp only [List.length_cons, List.length_nil]; omega)
      case p6 =>
        refine' pe_bin ?q1 ?q2 ?q3
        case q3 => exact op_adds (by rw [List.length_replicate]; omega)
        case q2 => exact pe_bin (pe_str (x := tx [32])) (pe_name (d := .int one) (by walk_at "nm")) (op_muls (by omega))
        case q1 =>
          refine' pe_join ?p9 ?p10
          case p10 => omega
          case p9 =>
            refine' PE.cast ?p11 ?p12
            case p11 =>
              exact PL.pe (CompOK.pl (co_over (src := dd) (f := .int) (g := fun a => .str (tx (runT (a.fdiv 2).toNat))) (p := fun _ => true) (V.cs rfl) (pe_name (d := .il dd) (by walk_at "nm")) (.inl rfl) (by omega) rfl (by decide) (fun a c₀ hm => ct_nil) (fun a c₀ hm _ =>
                have ha := half_at (hb a hm)
                pe_bin (pe_bin (pe_str (x := tx [32])) (PE.cast (d' := .int (((a.fdiv 2).toNat : Nat) : Int)) (pe_bin (pe_name (d := .int a) (by walk_at "nm")) pe_int (op_div (by decide) (PyProof.noPylong_small (by decide)))) (by congr 1; omega)) (op_muls (by omega))) (pe_str (x := tx [9])) (op_adds (by simp; omega)))))
            case p12 =>
              rw [filter_true]
              show D.list _ = D.list _
              unfold halfD
              rw [List.map_map, List.map_map]; rfl

theorem law17 (X : LFacts C bl br ins rif dr ini eqf gi pf la fl fr fi ff fw fii fe fg fp fla) (V : LawAt C la fla env) {hv : List Int × Nat} {n one : Nat} (hn : n ≤ 8) (he : hv = (normD n, one)) (o : Ok 19 A) (W : Fw C env B s own ρ lst)
    (h1 : ρ (K "halved") = some (.cl (.ws hv.1 (hv.2 : Nat)))) (h2 : ρ (K "size") = some (.cl (.int n))) (h3 : ρ (K "one") = some (.cl (.int one)))
    (k : ∀ s', Fw C env B s' own ρ lst → wpAny C.M A (execs (lawTail 18) env) Q E s') : wpAny C.M A (execs (lawTail 17) env) Q E s := by
  rw [show lawTail 17 = lawStmt 17 :: lawTail 18 from by unfold lawTail; rfl]
  refine st_no o W (pt_cmp (pe_norm X.P.toWFacts (cs := hv.1) (b := (hv.2 : Int)) (pe_name (by walk_at "nm"))) (PE.cast (d' := .tuple [.tl (normD n), .int one]) (pe_tuple (pel_cons (pe_call (V.gn rfl (.inr ⟨X.P.tuple, X.P.tuple'⟩)) (pel_cons (PL.pe (pl_cat (pl_mul1 (d := .int 2) (k := ((n / 2 : Nat) : Int)) (pl_list (pel_cons pe_int pel_nil) (by simp)) (PE.cast (pe_bin (pe_name (d := .int n) (by walk_at "nm")) pe_int (op_div (by decide) (PyProof.noPylong_small (by decide)))) ?d1) (by omega) (by omega))
    (pl_mul1 (d := .int 1) (k := ((n % 2 : Nat) : Int)) (pl_list (pel_cons pe_int pel_nil) (by simp)) (PE.cast (pe_bin (pe_name (d := .int n) (by walk_at "nm")) pe_int (op_mod (by decide))) ?d2) (by omega) (by omega)) (by simp; omega))) pel_nil) (opn_tuple_list (by simp; omega)) (.inr (.inl ⟨_, rfl⟩))) (pel_cons (pe_name (d := .int one) (by walk_at "nm")) pel_nil)) (by simp)) ?d3) (op_ne (fit_norm _ _) (fit_norm _ _) (eqv_norm _ _ _ _))) ?hc k
  case d1 => rw [Int.fdiv_eq_ediv_of_nonneg _ (by decide)]; congr 1
  case d2 => rw [Int.fmod_eq_emod_of_nonneg _ (by decide)]; congr 1
  case d3 =>
    unfold normD
    rw [show ((n / 2 : Nat) : Int).toNat = n / 2 from by omega, show ((n % 2 : Nat) : Int).toNat = n % 2 from by omega]
    simp [List.map_append, List.map_replicate]
  case hc => rw [he]; simp

theorem law18 (V : LawAt C la fla env) {cs : List Int} {c : Int} (hc : (List.map D.int cs)[(3 : Int).toNat]? = some (.int c)) (o : Ok 19 A) (W : Fw C env B s own ρ lst) (h1 : ρ (K "cells") = some (.cl (.il cs)))
    (k : ∀ s', Fw C env B s' own (ρ.set (K "step") (.cl (.int (stepD c)))) lst → wpAny C.M A (execs (lawTail 19) env) Q E s') : wpAny C.M A (execs (lawTail 18) env) Q E s := by
  rw [show lawTail 18 = lawStmt 18 :: lawTail 19 from by unfold lawTail; rfl]
  refine st_assign (d := .int (stepD c)) o W (PE.cast (pe_bin pe_int (pe_bin (pe_item (i := 3) (d := .int c) (pe_name (d := .il cs) (by walk_at "nm")) pe_int (by decide) hc (by decide)) pe_int (op_mod (by decide))) op_add) ?cc) (V.st rfl) k
  case cc =>
    unfold stepD
    have := Int.fmod_nonneg_of_pos c (show (0 : Int) < 3 by decide)
    congr 1
    omega
theorem step_range (c : Int) : 1 ≤ stepD c ∧ stepD c ≤ 3 := by
  have h0 := Int.fmod_nonneg_of_pos c (show (0 : Int) < 3 by decide)
  have h1 := Int.fmod_lt_of_pos c (show (0 : Int) < 3 by decide)
  unfold stepD
  omega
theorem sq_ruler {st : Nat} (h : 1 ≤ st ∧ st ≤ 3) : SqOk (rulerD st) 4 := by
  have : st = 1 ∨ st = 2 ∨ st = 3 := by omega
  have key : ∀ l : List Int, l.length = 5 → l.getD 4 0 = 0 → (∀ i : Fin 4, l.getD i.val 0 ≠ 0) → (∀ i : Fin 5, l.getD i.val 0 ≠ 127) → SqOk l 4 := fun l a b c d => ⟨by decide, by omega, b, fun i hi => c ⟨i, hi⟩, fun i hi => d ⟨i, by omega⟩⟩
  rcases this with rfl | rfl | rfl <;> exact key _ (by decide) (by decide) (by decide) (by decide)
theorem sq_ruler_pos {st : Nat} (h : 1 ≤ st ∧ st ≤ 3) : ∀ i, 1 ≤ sqAt (rulerD st) 4 i := fun i => by
  have key : ∀ l : List Int, (∀ i : Fin 4, 1 ≤ l.getD i.val 0) → 1 ≤ sqAt l 4 i := fun l c => by
    unfold sqAt
    split
    · rename_i q; exact c ⟨i, q⟩
    · exact c ⟨3, by decide⟩
  have : st = 1 ∨ st = 2 ∨ st = 3 := by omega
  rcases this with rfl | rfl | rfl <;> exact key _ (by decide)
theorem law19 (X : LFacts C bl br ins rif dr ini eqf gi pf la fl fr fi ff fw fii fe fg fp fla) (V : LawAt C la fla env) {rd : List Int} {n st : Nat} (hn : n ≤ 8) (hr : rd.length = n) (hst : 1 ≤ st ∧ st ≤ 3) (o : Ok 19 A) (W : Fw C env B s own ρ lst)
    (h1 : ρ (K "riffled") = some (.cl (.il rd))) (h2 : ρ (K "step") = some (.cl (.int st))) (h3 : ρ (K "fulls") = some (.cl (D.wsl (fullsD n))))
    (k : ∀ s', Fw C env B s' own (ρ.set (K "doubled") (.cl (.bl (doubD rd n st)))) lst → wpAny C.M A (execs (lawTail 20) env) Q E s') : wpAny C.M A (execs (lawTail 19) env) Q E s := by
  rw [show lawTail 19 = lawStmt 19 :: lawTail 20 from by unfold lawTail; rfl]
  exact st_assign (d := .bl (doubD rd n st)) o W (pe_call (V.gn rfl (.inl X.P.npf)) (pel_cons (pe_name (d := .il rd) (by walk_at "nm")) (pel_cons (PE.cast (d' := .il (rulerD st)) (PL.pe (pl_list (pel_cons (pe_name (d := .int st) (by walk_at "nm")) (pel_cons (pe_name (d := .int st) (by walk_at "nm")) (pel_cons (pe_bin pe_int (pe_name (d := .int st) (by walk_at "nm")) (op_mul (by decide) ⟨by omega, by omega⟩)) (pel_cons (pe_bin pe_int (pe_name (d := .int st) (by walk_at "nm")) (op_mul (by decide) ⟨by omega, by omega⟩)) (pel_cons pe_int pel_nil))))) (by simp))) rfl) (pel_cons (pe_name (d := D.wsl (fullsD n)) (by walk_at "nm")) pel_nil)))
    ((pcs_spec X.P (by omega) (sq_ruler hst) (sq_ruler_pos hst) (by simp [fullsD]; omega)).le (by decide)) (.inr (.inr X.P.hpf.atK))) (V.st rfl) k
theorem pcsGo_len (deck : List Int) (fd : List (List Int × Nat)) (sz : Nat → Nat) : ∀ k i place flags, (pcsGo deck fd sz k i place flags).length ≤ flags.length + k
  | 0, _, _, flags => by simp [pcsGo]
  | k + 1, i, place, flags => by
    unfold pcsGo
    split
    · omega
    · have := pcsGo_len deck fd sz k (i + 1) (place + sz i) (flags ++ [pcFlag deck fd place (sz i)])
      simp at this; omega
theorem law20 (V : LawAt C la fla env) {n st : Nat} {db : List Bool} (hst : 1 ≤ st ∧ st ≤ 3) (hd : db.length ≤ 100) (he : db = totD n st) (o : Ok 19 A) (W : Fw C env B s own ρ lst)
    (h1 : ρ (K "doubled") = some (.cl (.bl db))) (h2 : ρ (K "step") = some (.cl (.int st))) (h3 : ρ (K "size") = some (.cl (.int n)))
    (k : ∀ s', Fw C env B s' own ρ lst → Q (.ret (.bool true)) s') : wpAny C.M A (execs (lawTail 20) env) Q E s := by
  rw [show lawTail 20 = [lawStmt 20] from by unfold lawTail; rfl]
  refine st_return (d := .bool true) o W (PE.cast (pe_cmp (PE.cast (d' := .bl db) (PL.pe (CompOK.pl (co_over (src := db) (f := .bool) (g := .bool) (p := fun _ => true) (V.cs rfl) (pe_name (d := .bl db) (by walk_at "nm")) (.inl rfl) (by omega) rfl (by decide) (fun a c₀ hm => ct_nil) (fun a c₀ hm _ => PE.cast (pe_cmp (pe_name (d := .bool a) (by walk_at "nm")) (pe_bool (b := true)) op_isbool) (by simp))))) ?f1)
    (PE.cast (d' := .bl (totD n st)) (PL.pe (CompOK.pl (co_over (src := ([(st : Int), 2 * st, 4 * st, 8 * st] : List Int)) (f := .int) (g := fun _ => .bool true) (p := fun t => decide (t ≤ n)) (V.cs rfl)
      (pe_tuple (pel_cons (pe_name (d := .int st) (by walk_at "nm")) (pel_cons (pe_bin pe_int (pe_name (d := .int st) (by walk_at "nm")) (op_mul (by decide) ⟨by omega, by omega⟩)) (pel_cons (pe_bin pe_int (pe_name (d := .int st) (by walk_at "nm")) (op_mul (by decide) ⟨by omega, by omega⟩)) (pel_cons (pe_bin pe_int (pe_name (d := .int st) (by walk_at "nm")) (op_mul (by decide) ⟨by omega, by omega⟩)) pel_nil)))) (by simp))
      (.inr (.inl rfl)) (by simp) rfl (by decide) (fun a c₀ hm => ct_one (pt_cmp (pe_name (d := .int a) (by walk_at "nm")) (pe_name (d := .int n) (by walk_at "nm")) op_le)) (fun a c₀ hm _ => pe_bool)))) ?f2) (op_eq (fit_bl _) (fit_bl _) (eqv_bl _ _))) ?tr) fun v s' W r => ?_
  case f1 => rw [filter_true]
  case f2 =>
    unfold totD
    show D.list _ = D.list _
    rw [List.map_map]; rfl
  case tr => rw [he]; simp
  simp only [Rep] at r
  subst r
  exact k s' W
end
end Mine

-- part M46
namespace Mine
open PySem PySem.W PyProof.Rows

local macro_rules | `(tactic| walk_at "nm") => `(tactic| repeat' (first | assumption | exact Rho.same | exact Rho.bor_same | refine Rho.only_in (by decide) ?_ | refine Rho.bor_ne (by decide) ?_ | refine Rho.ne (by decide) ?_))

/-- all that law asks, as a plain statement of size, spots, the two places and the fourth cell -/
structure Plain (n : Nat) (c1 c2 c3 : Int) : Prop where
  hok : handOk (spotsD n c1) n
  heq : riffled (spotsD n c1) n = handD (spotsD n c1) n
  g1 : DeckOk (riffled (spotsD n c1) n) n
  g2 : DeckOk (bentD (riffled (spotsD n c1) n) n (c2.fmod n) ((c2.fdiv 8).fmod n)) n
  g3 : DeckOk (drawn n c3) n
  mvb : ∀ a ∈ movedD (bentD (riffled (spotsD n c1) n) n (c2.fmod n) ((c2.fdiv 8).fmod n)) (c2.fmod n) ((c2.fdiv 8).fmod n), 0 ≤ a ∧ a ≤ 9
  e15 : decide (wsOf (tx (runsT (movedD (bentD (riffled (spotsD n c1) n) n (c2.fmod n) ((c2.fdiv 8).fmod n)) (c2.fmod n) ((c2.fdiv 8).fmod n)) [120])) = (fullsD n).getD n ([], 0)) = decide (isort (movedD (bentD (riffled (spotsD n c1) n) n (c2.fmod n) ((c2.fdiv 8).fmod n)) (c2.fmod n) ((c2.fdiv 8).fmod n)) = idsI n)
  drb : ∀ a ∈ drawn n c3, 0 ≤ a ∧ a ≤ 9
  e17 : wsOf (tx (halfT (drawn n c3) (c2.fmod n).toNat)) = (normD n, (c2.fmod n).toNat)
  e20 : doubD (riffled (spotsD n c1) n) n (stepD c3) = totD n (stepD c3)

def Hat (ρ : Rho) : Prop := ∀ x p, ρ x = some p → (x == K "pile") = false ∧ (x == K "rest") = false ∧ ∀ c, p ≠ .at c
theorem Hat.nil : Hat noR := fun _ _ e => by cases e
theorem Hat.set {ρ : Rho} (h : Hat ρ) {x : Str} {d : D} (h1 : (x == K "pile") = false) (h2 : (x == K "rest") = false) : Hat (ρ.set x (.cl d)) := fun y p e => by
  unfold Rho.set at e
  split at e
  · rename_i q
    subst q
    cases e
    exact ⟨h1, h2, fun c => by intro z; cases z⟩
  · exact h y p e

section
variable {C : Cx} {bl br ins rif dr ini eqf gi pf la : Addr} {fl fr fi ff fw fii fe fg fp fla : FuncData}

theorem law_walk (X : LFacts C bl br ins rif dr ini eqf gi pf la fl fr fi ff fw fii fe fg fp fla) {ns : List Int} (hn : ns.length ≤ 63) (P : Plain (sizeD ns) ((cellsD ns).getD 1 0) ((cellsD ns).getD 2 0) ((cellsD ns).getD 3 0)) : OpN C 20 (.ref la) [.il ns] (.bool true) := by
  intro A own s vs Q E o I r k
  simp only [RepL] at r
  obtain ⟨u, _, rfl, ru, rfl⟩ := r
  refine wpAny_call (enterC (ps := [(K "script", .cl (.il ns))]) o I X.hla.ok (X.bindl u) (by rw [X.hla.scope]; rfl)
    (.cons ru .nil) (fun s₁ env he hL hcl hcd ⟨own₁, W⟩ => ?_) (by rw [X.hla.scope]; rfl))
  simp only [rhoOf] at W
  have o2 : Ok 19 (A.deeper env) := o.deeper
  have V : LawAt C la fla env := ⟨he.trans X.hla.scope, fun x e => hcl x (by rw [X.hla.scope]; exact e)⟩
  obtain ⟨z1, z8, hz⟩ := size_facts ns
  obtain ⟨a0, a1⟩ := cells_get ns 1 (by decide)
  obtain ⟨b0, b1⟩ := cells_get ns 2 (by decide)
  obtain ⟨d0, d1⟩ := cells_get ns 3 (by decide)
  rw [show bodyAt 14 = lawTail 0 from by unfold lawTail; rfl]
  refine law0 X V hn o2 W (by walk_at "nm") fun s₂ W => ?_
  refine law1 (n := sizeD ns) (c := (cellsD ns).getD 0 0) V (cell_get ns 0 (by decide)) hz.symm o2 W (by walk_at "nm") fun s₃ W => ?_
  generalize sizeD ns = n at P z1 z8 W
  refine law2 X V z8 o2 W (by walk_at "nm") fun s₄ W => ?_
  refine law3 (c := (cellsD ns).getD 1 0) X V (cell_get ns 1 (by decide)) a0 (by omega) z8 o2 W (by walk_at "nm") (by walk_at "nm") fun s₅ W => ?_
  refine law4 X V z8 (spots_len n _) o2 W (by walk_at "nm") (by walk_at "nm") fun s₆ W => ?_
  refine law567 X V z8 (spots_len n _) P.hok P.heq o2 W (by walk_at "nm") (by walk_at "nm") (by walk_at "nm") ((((((Hat.nil.set rfl rfl).set rfl rfl).set rfl rfl).set rfl rfl).set rfl rfl).set rfl rfl) fun s₇ own₇ W => ?_
  refine law8 (c := (cellsD ns).getD 2 0) V (cell_get ns 2 (by decide)) z1 o2 W (by walk_at "nm") (by walk_at "nm") fun s₈ W => ?_
  refine law9 (c := (cellsD ns).getD 2 0) V (cell_get ns 2 (by decide)) z1 o2 W (by walk_at "nm") (by walk_at "nm") fun s₉ W => ?_
  generalize (cellsD ns).getD 1 0 = c1 at P W
  have hlen : (riffled (spotsD n c1) n).length = n := P.g1.len
  have q0 := Int.fmod_nonneg_of_pos ((cellsD ns).getD 2 0) (show (0 : Int) < n by omega)
  have q1 := Int.fmod_lt_of_pos ((cellsD ns).getD 2 0) (show (0 : Int) < n by omega)
  have r0 := Int.fmod_nonneg_of_pos (((cellsD ns).getD 2 0).fdiv 8) (show (0 : Int) < n by omega)
  have r1 := Int.fmod_lt_of_pos (((cellsD ns).getD 2 0).fdiv 8) (show (0 : Int) < n by omega)
  refine law10 (rd := riffled (spotsD n c1) n) (one := ((cellsD ns).getD 2 0).fmod n) (two := (((cellsD ns).getD 2 0).fdiv 8).fmod n) X V z8 hlen ⟨q0, q1⟩ ⟨r0, r1⟩ o2 W (by walk_at "nm") (by walk_at "nm") (by walk_at "nm") (by walk_at "nm") fun s₁₀ W => ?_
  refine law11 (c := (cellsD ns).getD 3 0) X V (cell_get ns 3 (by decide)) d0 (by omega) z8 o2 W (by walk_at "nm") (by walk_at "nm") fun s₁₁ W => ?_
  generalize (cellsD ns).getD 2 0 = c2 at P W q0 q1 r0 r1
  have hbl : (bentD (riffled (spotsD n c1) n) n (c2.fmod n) ((c2.fdiv 8).fmod n)).length = n := P.g2.len
  have hdl : (drawn n ((cellsD ns).getD 3 0)).length = n := P.g3.len
  have hone : ((c2.fmod n).toNat : Int) = c2.fmod n := Int.toNat_of_nonneg q0
  refine law12 (cs := cellsD ns) (rd := riffled (spotsD n c1) n) (bd := bentD (riffled (spotsD n c1) n) n (c2.fmod n) ((c2.fdiv 8).fmod n)) (dd := drawn n ((cellsD ns).getD 3 0)) (one := c2.fmod n) (two := (c2.fdiv 8).fmod n) X V z8 o2 W
    ⟨by walk_at "nm", by walk_at "nm", by walk_at "nm", by walk_at "nm", by walk_at "nm", by walk_at "nm", by walk_at "nm", by walk_at "nm"⟩ P.g1 P.g2 P.g3 fun s₁₂ own₁₂ ρ W H => ?_
  have g1 := H.cells
  have g2 := H.size
  have g3 := H.fulls
  have g4 := H.rif
  have g5 := H.one
  have g6 := H.two
  have g7 := H.bent
  have g8 := H.drawn
  have g9 : ρ (K "one") = some (.cl (.int ((c2.fmod n).toNat : Int))) := by rw [hone]; exact g5
  refine law13 X V (by omega) o2 W g7 g5 g6 fun s₁₃ W => ?_
  have hml : (movedD (bentD (riffled (spotsD n c1) n) n (c2.fmod n) ((c2.fdiv 8).fmod n)) (c2.fmod n) ((c2.fdiv 8).fmod n)).length ≤ 8 := by
    unfold movedD
    rw [List.length_mapIdx]; omega
  refine law14 (mv := movedD (bentD (riffled (spotsD n c1) n) n (c2.fmod n) ((c2.fdiv 8).fmod n)) (c2.fmod n) ((c2.fdiv 8).fmod n)) X V hml P.mvb o2 W (by walk_at "nm") fun s₁₄ W => ?_
  refine law15 (n := n) (mv := movedD (bentD (riffled (spotsD n c1) n) n (c2.fmod n) ((c2.fdiv 8).fmod n)) (c2.fmod n) ((c2.fdiv 8).fmod n)) (ld := wsOf (tx (runsT (movedD (bentD (riffled (spotsD n c1) n) n (c2.fmod n) ((c2.fdiv 8).fmod n)) (c2.fmod n) ((c2.fdiv 8).fmod n)) [120]))) X V z8 hml P.e15 o2 W (by walk_at "nm") (by walk_at "nm") (by walk_at "nm") (by walk_at "nm") fun s₁₅ W => ?_
  refine law16 (dd := drawn n ((cellsD ns).getD 3 0)) (one := (c2.fmod n).toNat) X V (by omega) (by omega) P.drb o2 W (by walk_at "nm") (by walk_at "nm") fun s₁₆ W => ?_
  refine law17 (n := n) (hv := wsOf (tx (halfT (drawn n ((cellsD ns).getD 3 0)) (c2.fmod n).toNat))) (one := (c2.fmod n).toNat) X V z8 P.e17 o2 W (by walk_at "nm") (by walk_at "nm") (by walk_at "nm") fun s₁₇ W => ?_
  refine law18 (c := (cellsD ns).getD 3 0) V (cell_get ns 3 (by decide)) o2 W (by walk_at "nm") fun s₁₈ W => ?_
  have hst := step_range ((cellsD ns).getD 3 0)
  refine law19 (rd := riffled (spotsD n c1) n) (n := n) (st := stepD ((cellsD ns).getD 3 0)) X V z8 hlen hst o2 W (by walk_at "nm") (by walk_at "nm") (by walk_at "nm") fun s₁₉ W => ?_
  refine law20 (db := doubD (riffled (spotsD n c1) n) n (stepD ((cellsD ns).getD 3 0))) (n := n) (st := stepD ((cellsD ns).getD 3 0)) V hst ?dl P.e20 o2 W (by walk_at "nm") (by walk_at "nm") (by walk_at "nm") fun s₂₀ W => ?_
  case dl =>
    have := pcsGo_len (riffled (spotsD n c1) n) (fullsD n) (fun i => (sqAt (rulerD (stepD ((cellsD ns).getD 3 0))) 4 i).toNat) ((riffled (spotsD n c1) n).length + 1) 0 0 []
    unfold doubD pcs
    simp only [List.length_nil] at this
    omega
  exact k _ _ W.x rfl
end
end Mine

-- part M47
namespace Mine
open PySem PySem.W PyProof.Rows

def fdOf (K : Frag) (a : Addr) : FuncData := match K.lookup a with
  | some ⟨_, _, .func fd, _⟩ => fd
  | _ => default
def objOf (K : Frag) (a : Addr) : Obj := (K.lookup a).getD default
theorem fnOK_of {C : Cx} {f : Addr} {body : List Stmt} (h1 : C.K.lookup f = some ⟨(objOf C.K f).cls, (objOf C.K f).dict, .func (fdOf C.K f), (objOf C.K f).slots⟩)
    (h2 : codeIn C.K (fdOf C.K f).code (fdOf C.K f).qualname = true) (h3 : (fdOf C.K f).body = .stmts body) (h4 : (fdOf C.K f).globals = mainGlobals) (h5 : (fdOf C.K f).builtins = builtinsNs)
    (h6 : (fdOf C.K f).closure = []) (h7 : (fdOf C.K f).scope.kind = .function) (h8 : (fdOf C.K f).scope.isCoroutine = false) : FnOK C f (fdOf C.K f) body :=
  ⟨⟨_, _, _, h1⟩, h2, h3, h4, h5, h6, h7, h8⟩

theorem good_true {c : ClaimW} {cl : Str → Option Addr} {mean : ExcName → Option Value} {args : List WData} {s₁ s' : Shared} (x : XB no s₁ s') (hr : ∀ cls, c.raises args cls = false) (hp : c.post args (.bool true) args = true) (hb : s₁.gens = #[]) :
    GoodWG c cl mean args s₁ (.ok (.ret (.bool true))) s' :=
  ⟨.inl ⟨_, _, [], rfl, hr, ReadsW.bool true, hp, fun _ => ⟨List.nodup_nil, fun _ hm => (nomatch hm)⟩⟩, .of_keep x.keeps, x.os, x.bare (.of_eq hb)⟩

theorem ok_caller : Ok 20 callerA := ⟨rfl, by decide, by decide⟩

theorem fin_law {C : Cx} {bl br ins rif dr ini eqf gi pf la : Addr} {fl fr fi ff fw fii fe fg fp fla : FuncData} (X : LFacts C bl br ins rif dr ini eqf gi pf la fl fr fi ff fw fii fe fg fp fla)
    {s₁ : Shared} (hs : C.hb = s₁.heap) (hg : s₁.gens = #[]) {a : Addr} {its : List Value} {ns : List Int} (hl : s₁.heap.IsList a its.toArray) (hi : IntsAre its ns) (hn : ns.length ≤ 63)
    (P : Plain (sizeD ns) ((cellsD ns).getD 1 0) ((cellsD ns).getD 2 0) ((cellsD ns).getD 3 0))
    {c : ClaimW} {cl : Str → Option Addr} {mean : ExcName → Option Value} {args : List WData} (hr : ∀ cls, c.raises args cls = false) (hp : c.post args (.bool true) args = true) :
    wpAny C.M callerA (call (.ref la) [.ref a]) (fun v s' => GoodWG c cl mean args s₁ (.ok (.ret v)) s') (fun e s' => GoodWG c cl mean args s₁ (.error e) s') s₁ := by
  refine law_walk X hn P callerA [] s₁ [.ref a] _ _ ok_caller ⟨fun b o e => by rw [← hs]; exact e, fun _ m => by simp at m, fun _ m => by simp at m⟩ ?_ (fun r s' x rr => ?_)
  · simp only [RepL, Rep]
    exact ⟨_, _, rfl, ⟨a, its, rfl, by simp, hl, RepL.il.mpr hi⟩, rfl⟩
  · simp only [Rep] at rr
    subst rr
    exact good_true x hr hp hg

abbrev mkC (prog : Program) (w : World) {hb : Heap} {K : Frag} (X : K.In hb) {p' : Program} {loose : List Str} {mean : ExcName → Option Value} {mg mb : Str → Option Value} (T : Top p' loose mean mg mb hb) : Cx :=
  { prog := prog, w := w, hb := hb, K := K, X := X, mg := mg, mb := mb, G := T.g, B := T.b, lim := T.nolimit, cw := 117 }
abbrev LF (prog : Program) (w : World) {hb : Heap} {K : Frag} (X : K.In hb) {p' : Program} {loose : List Str} {mean : ExcName → Option Value} {mg mb : Str → Option Value} (T : Top p' loose mean mg mb hb) : Prop :=
  LFacts (mkC prog w X T) 48 39 30 128 135 72 93 55 140 145 (fdOf K 48) (fdOf K 39) (fdOf K 30) (fdOf K 128) (fdOf K 135) (fdOf K 72) (fdOf K 93) (fdOf K 55) (fdOf K 140) (fdOf K 145)
theorem fin_law2 {prog : Program} {w : World} {s₁ : Shared} {K : Frag} (X : K.In s₁.heap) {p' : Program} {loose : List Str} {me : ExcName → Option Value} {mg mb : Str → Option Value} (T : Top p' loose me mg mb s₁.heap) (L : LF prog w X T)
    (hg : s₁.gens = #[]) {a : Addr} {its : List Value} {ns : List Int} (hl : s₁.heap.IsList a its.toArray) (hi : IntsAre its ns) (hn : ns.length ≤ 63)
    (P : Plain (sizeD ns) ((cellsD ns).getD 1 0) ((cellsD ns).getD 2 0) ((cellsD ns).getD 3 0))
    {c : ClaimW} {cl : Str → Option Addr} {mean : ExcName → Option Value} {args : List WData} (hr : ∀ cls, c.raises args cls = false) (hp : c.post args (.bool true) args = true) :
    wpAny (model prog w) callerA (call (.ref 145) [.ref a]) (fun v s' => GoodWG c cl mean args s₁ (.ok (.ret v)) s') (fun e s' => GoodWG c cl mean args s₁ (.error e) s') s₁ :=
  fin_law L rfl hg hl hi hn P hr hp
end Mine

-- part P1
namespace Mine
open PySem PySem.W PyProof.Rows

theorem bump_getD (c : List Int) (b k : Nat) : (bump c b).getD k 0 = c.getD k 0 + if k = b then 1 else 0 := by
  have key : ∀ c' : List Int, b < c'.length → (c'.set b (c'.getD b 0 + 1)).getD k 0 = c'.getD k 0 + if k = b then 1 else 0 := fun c' h => by
    simp only [List.getD_eq_getElem?_getD, List.getElem?_set]
    by_cases e : b = k
    · subst e; simp [h]
    · simp [e, Ne.symm e]
  unfold bump
  dsimp only
  rw [key]
  · congr 1
    split
    · rename_i h
      simp only [List.getD_eq_getElem?_getD]
      by_cases hk : k < c.length
      · rw [List.getElem?_append_left hk]
      · rw [List.getElem?_append_right (by omega), List.getElem?_eq_none (by omega : c.length ≤ k), List.getElem?_replicate]
        split <;> rfl
    · rfl
  · split
    · simp; omega
    · omega
theorem list_ext_getD {a b : List Int} (hl : a.length = b.length) (h : ∀ k, a.getD k 0 = b.getD k 0) : a = b := by
  apply List.ext_getElem hl
  intro i h1 h2
  have := h i
  simp only [List.getD_eq_getElem?_getD, List.getElem?_eq_getElem h1, List.getElem?_eq_getElem h2, Option.getD_some] at this
  exact this
theorem bump_comm (c : List Int) (a b : Nat) : bump (bump c a) b = bump (bump c b) a := by
  apply list_ext_getD
  · simp only [bump_length]; omega
  · intro k
    simp only [bump_getD]; omega
theorem fold_getD : ∀ (rs : List Nat) (c : List Int) (k : Nat), (rs.foldl bump c).getD k 0 = c.getD k 0 + rs.count k
  | [], c, k => by simp
  | r :: rs, c, k => by
    rw [List.foldl_cons, fold_getD rs, bump_getD, List.count_cons]
    by_cases e : k = r
    · subst e; simp; omega
    · simp [e, Ne.symm e]
theorem fold_perm {rs rs' : List Nat} (p : rs.Perm rs') : ∀ c : List Int, rs.foldl bump c = rs'.foldl bump c := by
  induction p with
  | nil => intro c; rfl
  | cons x _ ih => intro c; exact ih _
  | swap x y l => intro c; simp only [List.foldl_cons]; rw [bump_comm]
  | trans _ _ ih1 ih2 => intro c; rw [ih1, ih2]
theorem wsRun_spaces (c : List Int) (l : List Nat) : ∀ (k b : Nat), wsRun (List.replicate k 32 ++ l) (c, b) = wsRun l (c, b + k)
  | 0, b => rfl
  | k + 1, b => by
    rw [List.replicate_succ, List.cons_append]
    show (if (32 : Nat) = 32 then wsRun (List.replicate k 32 ++ l) (c, b + 1) else _) = _
    rw [if_pos rfl, wsRun_spaces c l k (b + 1)]
    congr 2; omega
theorem wsRun_run (c : List Int) (k : Nat) (l : List Nat) : wsRun (runT k ++ l) (c, 0) = wsRun l (bump c k, 0) := by
  unfold runT
  rw [List.append_assoc, wsRun_spaces]
  show (if (9 : Nat) = 32 then _ else if (9 : Nat) = 9 then wsRun l (bump c (0 + k), 0) else _) = _
  rw [if_neg (by decide), if_pos rfl, Nat.zero_add]
theorem wsRun_runs (l : List Nat) : ∀ (rs : List Nat) (c : List Int), wsRun ((rs.map runT).flatten ++ l) (c, 0) = wsRun l (rs.foldl bump c, 0)
  | [], c => rfl
  | r :: rs, c => by
    rw [List.map_cons, List.flatten_cons, List.append_assoc, wsRun_run, wsRun_runs l rs]; rfl
theorem wsOf_tx (l : List Nat) : wsOf (tx l) = wsRun l ([], 0) := rfl
theorem wsOf_runs (rs : List Nat) : wsOf (tx ((rs.map runT).flatten)) = (rs.foldl bump [], 0) := by
  have := wsRun_runs [] rs []
  rw [List.append_nil] at this
  rw [wsOf_tx, this]; rfl

/-- the remainders of a piece -/
def remsD (d : List Int) (place size : Nat) : List Nat := ((d.drop place).take size).map fun c => (c.fmod size).toNat
def flagB (d : List Int) (place size : Nat) : Bool := decide ((remsD d place size).foldl bump [] = List.replicate size 1)
theorem full_norm {n k : Nat} (hk : k ≤ n) (hn : n ≤ 8) : (fullsD n).getD k ([], 0) = (List.replicate k 1, 0) := by
  have h1 : (fullsD n).getD k ([], 0) = wsOf (tx (((List.range k).map runT).flatten ++ [120, 32])) := by
    unfold fullsD
    rw [List.getD_eq_getElem?_getD, List.getElem?_map, List.getElem?_eq_getElem (by simp; omega), List.getElem_range]; rfl
  rw [h1, wsOf_tx, wsRun_runs]
  have : ∀ k : Fin 9, wsRun [120, 32] ((List.range k.val).foldl bump [], 0) = (List.replicate k.val 1, 0) := by decide +kernel
  exact this ⟨k, by omega⟩
theorem flag_eq {d : List Int} {n place size : Nat} (h : size ≤ n) (hn : n ≤ 8) : pcFlag d (fullsD n) place size = flagB d place size := by
  unfold pcFlag flagB
  rw [full_norm h hn]
  have : ((d.drop place).take size).map (fun c => runD c size) = (remsD d place size).map runT := by
    unfold remsD
    rw [List.map_map]; rfl
  rw [this, wsOf_runs]
  simp

def pcsB (d : List Int) (sz : Nat → Nat) : Nat → Nat → Nat → List Bool → List Bool
  | 0, _, _, flags => flags
  | k + 1, i, place, flags => if place + sz i > d.length then flags else pcsB d sz k (i + 1) (place + sz i) (flags ++ [flagB d place (sz i)])
theorem pcs_eqB {d : List Int} {n : Nat} (hd : d.length = n) (hn : n ≤ 8) (sz : Nat → Nat) : ∀ (k i place : Nat) (flags : List Bool), pcsGo d (fullsD n) sz k i place flags = pcsB d sz k i place flags
  | 0, _, _, _ => rfl
  | k + 1, i, place, flags => by
    unfold pcsGo pcsB
    split
    · rfl
    · rw [flag_eq (by omega) hn, pcs_eqB hd hn sz k]
theorem pcsB_len (sz : Nat → Nat) {d d' : List Int} (h : d.length = d'.length) : ∀ (k i place : Nat) (flags flags' : List Bool), flags.length = flags'.length → (pcsB d sz k i place flags).length = (pcsB d' sz k i place flags').length
  | 0, _, _, _, _, e => e
  | k + 1, i, place, flags, flags', e => by
    unfold pcsB
    rw [h]
    split
    · exact e
    · exact pcsB_len sz h k _ _ _ _ (by simp [e])
end Mine

-- part P2
namespace Mine
open PySem PySem.W PyProof.Rows

def piecesB (d : List Int) (n : Nat) : List (List Bool) := (List.range n).map fun (j : Nat) => pcsB d (fun _ => j + 1) (d.length + 1) 0 0 []
theorem sq_const (j i : Nat) : (sqAt [((j + 1 : Nat) : Int), 0, 7] 1 i).toNat = j + 1 := by
  unfold sqAt
  split
  · have : i = 0 := by omega
    subst this
    show (((j + 1 : Nat) : Int)).toNat = j + 1
    omega
  · show (((j + 1 : Nat) : Int)).toNat = j + 1
    omega
theorem pieces_eqB {d : List Int} {n : Nat} (hd : d.length = n) (hn : n ≤ 8) : piecesD d n = piecesB d n := by
  unfold piecesD piecesB pcs
  apply List.map_congr_left
  intro j _
  rw [pcs_eqB hd hn, show (fun i => (sqAt [((j + 1 : Nat) : Int), 0, 7] 1 i).toNat) = fun _ => j + 1 from funext (sq_const j)]
theorem lens_same {d d' : List Int} {n : Nat} (h : d.length = d'.length) : lensD (piecesB d n) = lensD (piecesB d' n) := by
  unfold lensD piecesB
  rw [List.map_map, List.map_map]
  apply List.map_congr_left
  intro j _
  show (((pcsB d _ _ 0 0 []).length : Nat) : Int) = ((pcsB d' _ _ 0 0 []).length : Nat)
  rw [pcsB_len (fun _ => j + 1) h (d.length + 1) 0 0 [] [] rfl, h]
theorem ids_len (n : Nat) : (idsI n).length = n := by simp [idsI]
theorem lens_ids : ∀ n : Fin 9, lensD (piecesB (idsI n.val) n.val) = quotD n.val := by decide +kernel
theorem lens_all {d : List Int} {n : Nat} (hd : d.length = n) (hn : n ≤ 8) : lensD (piecesD d n) = quotD n := by
  rw [pieces_eqB hd hn, lens_same (d' := idsI n) (by rw [ids_len]; exact hd)]
  exact lens_ids ⟨n, by omega⟩

def doubB (d : List Int) (st : Nat) : List Bool := pcsB d (fun i => (sqAt (rulerD st) 4 i).toNat) (d.length + 1) 0 0 []
theorem doub_eqB {d : List Int} {n st : Nat} (hd : d.length = n) (hn : n ≤ 8) : doubD d n st = doubB d st := by
  unfold doubD doubB pcs
  rw [pcs_eqB hd hn]

def inR (p : List Int) (n : Nat) : Bool := p.all fun a => decide (0 ≤ a) && decide (a < n)
/-- the near decks, by what is laid on next -/
def nearGo (n : Nat) : Nat → List (List Int)
  | 0 => (idsI n).map fun a => [a]
  | j + 1 => ((nearGo n j).flatMap fun p => [p ++ [mxL p + 1], p ++ [mnL p - 1]]).filter fun p => inR p n
def nearChk (n : Nat) : Bool := (nearGo n (n - 1)).all fun p => againD p n
theorem near1 : nearChk 1 = true := by decide +kernel
theorem near2 : nearChk 2 = true := by decide +kernel
theorem near3 : nearChk 3 = true := by decide +kernel
theorem near4 : nearChk 4 = true := by decide +kernel
theorem near5 : nearChk 5 = true := by decide +kernel
theorem near6 : nearChk 6 = true := by decide +kernel
theorem near7 : nearChk 7 = true := by decide +kernel
theorem near8 : nearChk 8 = true := by decide +kernel
theorem near_chk {n : Nat} (h1 : 1 ≤ n) (h8 : n ≤ 8) : nearChk n = true := by
  have : n = 1 ∨ n = 2 ∨ n = 3 ∨ n = 4 ∨ n = 5 ∨ n = 6 ∨ n = 7 ∨ n = 8 := by omega
  rcases this with rfl | rfl | rfl | rfl | rfl | rfl | rfl | rfl
  · exact near1
  · exact near2
  · exact near3
  · exact near4
  · exact near5
  · exact near6
  · exact near7
  · exact near8

theorem mx_snoc {p : List Int} (h : p ≠ []) (x : Int) : mxL (p ++ [x]) = max (mxL p) x := by
  cases p with
  | nil => exact absurd rfl h
  | cons a l => show (l ++ [x]).foldl max a = _; rw [List.foldl_append]; rfl
theorem mn_snoc {p : List Int} (h : p ≠ []) (x : Int) : mnL (p ++ [x]) = min (mnL p) x := by
  cases p with
  | nil => exact absurd rfl h
  | cons a l => show (l ++ [x]).foldl min a = _; rw [List.foldl_append]; rfl
theorem near_span {d : List Int} {n j : Nat} (h : nearD d n = true) (hj : j < n) : mxL (d.take (j + 1)) - mnL (d.take (j + 1)) = (j : Int) := by
  have h1 := congrArg (fun l => l.getD j 0) (of_decide_eq_true h)
  unfold spanD idsI at h1
  simp only [List.getD_eq_getElem?_getD, List.getElem?_map, List.getElem?_eq_getElem (show j < (List.range n).length by simpa using hj), List.getElem_range, Option.map_some, Option.getD_some] at h1
  exact h1
theorem take_ne {d : List Int} {j : Nat} (h1 : 1 ≤ j) (h2 : j ≤ d.length) : d.take j ≠ [] := fun e => by
  have := congrArg List.length e
  rw [List.length_take, List.length_nil] at this
  omega
theorem take_mem {d : List Int} {i j : Nat} (h1 : i < j) (h2 : i < d.length) : d.getD i 0 ∈ d.take j := by
  have : (d.take j)[i]? = some (d.getD i 0) := by
    rw [List.getElem?_take, if_pos h1, List.getD_eq_getElem?_getD, List.getElem?_eq_getElem h2]; rfl
  exact List.mem_of_getElem? this
theorem mem_take {d : List Int} {j : Nat} {x : Int} (h : x ∈ d.take j) : ∃ i, i < j ∧ i < d.length ∧ x = d.getD i 0 := by
  obtain ⟨i, hi, e⟩ := List.mem_iff_getElem.mp h
  rw [List.length_take] at hi
  refine ⟨i, by omega, by omega, ?_⟩
  rw [← e, List.getElem_take, List.getD_eq_getElem?_getD, List.getElem?_eq_getElem (by omega)]; rfl
theorem take_snoc {d : List Int} {j : Nat} (h : j < d.length) : d.take (j + 1) = d.take j ++ [d.getD j 0] := by
  rw [List.take_succ_eq_append_getElem h, List.getD_eq_getElem?_getD, List.getElem?_eq_getElem h]; rfl
theorem near_new {d : List Int} {n j : Nat} (h : nearD d n = true) (hd : d.length = n) (h1 : 1 ≤ j) (hj : j < n) : d.getD j 0 = mxL (d.take j) + 1 ∨ d.getD j 0 = mnL (d.take j) - 1 := by
  have a := near_span h hj
  have b := near_span (j := j - 1) h (by omega)
  rw [show j - 1 + 1 = j by omega] at b
  have ne := take_ne h1 (by omega : j ≤ d.length)
  rw [take_snoc (by omega), mx_snoc ne, mn_snoc ne] at a
  omega
theorem near_go {d : List Int} {n : Nat} (h : nearD d n = true) (hd : d.length = n) (hr : inR d n = true) : ∀ j, j < n → d.take (j + 1) ∈ nearGo n j
  | 0, hj => by
    unfold nearGo
    have e : d.take 1 = [d.getD 0 0] := by rw [take_snoc (by omega)]; rfl
    rw [e]
    have hm := List.all_eq_true.mp hr (d.getD 0 0) (by
      have := take_mem (d := d) (i := 0) (j := 1) (by omega) (by omega)
      exact List.mem_of_mem_take this)
    simp only [Bool.and_eq_true, decide_eq_true_eq] at hm
    refine List.mem_map.mpr ⟨_, List.mem_map.mpr ⟨(d.getD 0 0).toNat, List.mem_range.mpr (by omega), rfl⟩, ?_⟩
    rw [Int.toNat_of_nonneg hm.1]
  | j + 1, hj => by
    unfold nearGo
    have ih := near_go h hd hr j (by omega)
    refine List.mem_filter.mpr ⟨List.mem_flatMap.mpr ⟨_, ih, ?_⟩, ?_⟩
    · rw [take_snoc (by omega : j + 1 < d.length)]
      rcases near_new h hd (by omega) hj with e | e <;> rw [e] <;> simp
    · exact List.all_eq_true.mpr fun x hx => List.all_eq_true.mp hr x (List.mem_of_mem_take hx)
theorem near_again {d : List Int} {n : Nat} (h1 : 1 ≤ n) (h8 : n ≤ 8) (h : nearD d n = true) (hd : d.length = n) (hr : inR d n = true) : againD d n = true := by
  have := near_go h hd hr (n - 1) (by omega)
  rw [show n - 1 + 1 = n by omega, List.take_of_length_le (by omega)] at this
  exact List.all_eq_true.mp (near_chk h1 h8) d this
end Mine

-- part P3
namespace Mine
open PySem PySem.W PyProof.Rows

-- as many different numbers below s as there are
theorem nodup_le : ∀ (s : Nat) (l : List Nat), l.Nodup → (∀ x ∈ l, x < s) → l.length ≤ s
  | 0, l, _, h => by
    cases l with
    | nil => simp
    | cons a l => exact absurd (h a List.mem_cons_self) (Nat.not_lt_zero _)
  | s + 1, l, hn, h => by
    have h1 := nodup_le s (l.erase s) (hn.erase s) fun x hx => by
      have hm := (List.Nodup.mem_erase_iff hn).mp hx
      have := h x hm.2
      omega
    have h2 := List.length_erase (a := s) (l := l)
    split at h2 <;> omega
theorem nodup_perm : ∀ (s : Nat) (l : List Nat), l.Nodup → (∀ x ∈ l, x < s) → l.length = s → l.Perm (List.range s)
  | 0, l, _, _, h => by rw [List.length_eq_zero_iff.mp h]; exact .nil
  | s + 1, l, hn, h, hl => by
    have hm : s ∈ l := by
      apply Decidable.byContradiction
      intro c
      have := nodup_le s l hn fun x hx => by
        have h1 := h x hx
        have h2 : x ≠ s := fun e => c (e ▸ hx)
        omega
      omega
    have h1 := nodup_perm s (l.erase s) (hn.erase s) (fun x hx => by
      have hm := (List.Nodup.mem_erase_iff hn).mp hx
      have := h x hm.2
      omega) (by rw [List.length_erase_of_mem hm]; omega)
    refine (List.perm_cons_erase hm).trans ?_
    rw [List.range_succ]
    exact (h1.cons s).trans (List.perm_append_singleton s _).symm

theorem rep_fold : ∀ s : Fin 9, (List.range s.val).foldl bump [] = List.replicate s.val 1 := by decide +kernel
theorem rems_len {d : List Int} {p s : Nat} (h : p + s ≤ d.length) : (remsD d p s).length = s := by unfold remsD; simp; omega
theorem rems_get {d : List Int} {p s i : Nat} (h : p + s ≤ d.length) (hi : i < s) : (remsD d p s)[i]? = some ((d.getD (p + i) 0).fmod s).toNat := by
  unfold remsD
  rw [List.getElem?_map, List.getElem?_take, if_pos hi, List.getElem?_drop, List.getD_eq_getElem?_getD, List.getElem?_eq_getElem (by omega)]; rfl

/-- no two cards of a piece leave the same remainder: the nanny says equal -/
theorem flag_of_distinct {d : List Int} {p s : Nat} (hs : s ≤ 8) (h : p + s ≤ d.length) (hd : ∀ i j, i < j → j < s → ¬ (s : Int) ∣ d.getD (p + i) 0 - d.getD (p + j) 0) : flagB d p s = true := by
  unfold flagB
  refine decide_eq_true ?_
  have hlen := rems_len h
  have perm : (remsD d p s).Perm (List.range s) := by
    refine nodup_perm s _ ?_ ?_ hlen
    · refine List.pairwise_iff_getElem.mpr fun i j hi hj hij => ?_
      rw [hlen] at hi hj
      have e1 := rems_get h hi
      have e2 := rems_get h hj
      rw [List.getElem?_eq_getElem (by rw [hlen]; exact hi)] at e1
      rw [List.getElem?_eq_getElem (by rw [hlen]; exact hj)] at e2
      rw [Option.some.inj e1, Option.some.inj e2]
      intro e
      have hs0 : (0 : Int) < s := by omega
      have a0 := Int.fmod_nonneg_of_pos (d.getD (p + i) 0) hs0
      have b0 := Int.fmod_nonneg_of_pos (d.getD (p + j) 0) hs0
      refine hd i j hij hj (Int.dvd_of_emod_eq_zero ?_)
      rw [Int.fmod_eq_emod_of_nonneg _ (by omega)] at e a0
      rw [Int.fmod_eq_emod_of_nonneg _ (by omega)] at e b0
      exact (Int.emod_eq_emod_iff_emod_sub_eq_zero).mp (by omega)
    · intro x hx
      obtain ⟨i, hi, rfl⟩ := List.mem_iff_getElem.mp hx
      rw [hlen] at hi
      have e1 := rems_get h hi
      rw [List.getElem?_eq_getElem (by rw [hlen]; exact hi)] at e1
      rw [Option.some.inj e1]
      have := Int.fmod_lt_of_pos (d.getD (p + i) 0) (show (0 : Int) < s by omega)
      omega
  rw [fold_perm perm]
  exact rep_fold ⟨s, by omega⟩
/-- two cards of a piece with the same remainder: the nanny says not equal -/
theorem flag_of_same {d : List Int} {p s i j : Nat} (h : p + s ≤ d.length) (hij : i < j) (hj : j < s) (hd : (s : Int) ∣ d.getD (p + i) 0 - d.getD (p + j) 0) : flagB d p s = false := by
  unfold flagB
  refine decide_eq_false fun e => ?_
  have hlen := rems_len h
  have hs0 : (0 : Int) < s := by omega
  generalize hr : ((d.getD (p + i) 0).fmod s).toNat = r
  have e1 : (remsD d p s)[i]? = some r := by rw [rems_get h (by omega), hr]
  have e2 : (remsD d p s)[j]? = some r := by
    rw [rems_get h hj, ← hr]
    congr 2
    rw [Int.fmod_eq_emod_of_nonneg _ (by omega), Int.fmod_eq_emod_of_nonneg _ (by omega)]
    exact ((Int.emod_eq_emod_iff_emod_sub_eq_zero).mpr (Int.emod_eq_zero_of_dvd hd)).symm
  have hc : 2 ≤ (remsD d p s).count r := by
    have hsub : [r, r].Sublist (remsD d p s) := by
      have h1 : (remsD d p s) = (remsD d p s).take (i + 1) ++ (remsD d p s).drop (i + 1) := (List.take_append_drop _ _).symm
      rw [h1]
      refine (List.Sublist.append (l₁ := [r]) (r₁ := [r]) (List.singleton_sublist.mpr ?_) (List.singleton_sublist.mpr ?_))
      · refine List.mem_of_getElem? (i := i) ?_
        rw [List.getElem?_take, if_pos (by omega)]; exact e1
      · refine List.mem_of_getElem? (i := j - (i + 1)) ?_
        rw [List.getElem?_drop, show i + 1 + (j - (i + 1)) = j by omega]; exact e2
    have := hsub.count_le r
    simpa using this
  have h3 := fold_getD (remsD d p s) [] r
  rw [e] at h3
  have h4 : (List.replicate s (1 : Int)).getD r 0 ≤ 1 := by
    rw [List.getD_eq_getElem?_getD, List.getElem?_replicate]
    split <;> simp
  simp only [List.getD_nil] at h3
  omega
end Mine

-- part P4
namespace Mine
open PySem PySem.W PyProof.Rows

section
variable {d : List Int} {n : Nat}
theorem in_span {i m : Nat} (hd : d.length = n) (h : i < m) (hm : m ≤ n) : mnL (d.take m) ≤ d.getD i 0 ∧ d.getD i 0 ≤ mxL (d.take m) := by
  have ne := take_ne (d := d) (j := m) (by omega) (by omega)
  have hmem := take_mem (d := d) h (by omega)
  exact ⟨(mnL_facts ne).2 _ hmem, (mxL_facts ne).2 _ hmem⟩
theorem span_mono {p m : Nat} (hd : d.length = n) (h1 : 1 ≤ p) (h : p ≤ m) (hm : m ≤ n) : mnL (d.take m) ≤ mnL (d.take p) ∧ mxL (d.take p) ≤ mxL (d.take m) := by
  have ne := take_ne (d := d) (j := p) h1 (by omega)
  obtain ⟨i, hi, _, e⟩ := mem_take (mnL_facts ne).1
  obtain ⟨j, hj, _, e'⟩ := mem_take (mxL_facts ne).1
  rw [e, e']
  exact ⟨(in_span hd (by omega) hm).1, (in_span hd (by omega) hm).2⟩
theorem near_out {p i : Nat} (h : nearD d n = true) (hd : d.length = n) (h1 : 1 ≤ p) (hi : p ≤ i) (hn : i < n) : d.getD i 0 < mnL (d.take p) ∨ mxL (d.take p) < d.getD i 0 := by
  have hm := span_mono hd h1 hi (by omega)
  rcases near_new h hd (by omega) hn with e | e <;> omega
theorem near_ne {i j : Nat} (h : nearD d n = true) (hd : d.length = n) (hi : i < j) (hn : j < n) : d.getD i 0 ≠ d.getD j 0 := by
  have a := near_out (p := j) h hd (by omega) (Nat.le_refl _) hn
  have b := in_span hd hi (by omega)
  omega
/-- Gilbreath: in every whole piece of s cards no two leave the same remainder by s -/
theorem near_flag {s k : Nat} (h : nearD d n = true) (hd : d.length = n) (h8 : n ≤ 8) (hs : 1 ≤ s) (hp : s * k + s ≤ n) : flagB d (s * k) s = true := by
  refine flag_of_distinct (by omega) (by omega) fun i j hij hj ⟨t, ht⟩ => ?_
  have hsp := near_span (j := s * k + s - 1) h (by omega)
  rw [show s * k + s - 1 + 1 = s * k + s by omega] at hsp
  have bi := in_span (i := s * k + i) (m := s * k + s) hd (by omega) hp
  have bj := in_span (i := s * k + j) (m := s * k + s) hd (by omega) hp
  have ne := near_ne (i := s * k + i) (j := s * k + j) h hd (by omega) (by omega)
  generalize hx : d.getD (s * k + i) 0 = x at ht bi ne
  generalize hy : d.getD (s * k + j) 0 = y at ht bj ne
  rw [show ((s * k + s - 1 : Nat) : Int) = (s : Int) * k + s - 1 by push_cast [show 1 ≤ s * k + s by omega]; omega] at hsp
  have hs' : (1 : Int) ≤ s := by omega
  -- a multiple of s between two neighbouring multiples
  have no : ∀ a : Int, ¬ ((s : Int) * a < s * t ∧ (s : Int) * t < s * (a + 1)) := fun a ⟨h1, h2⟩ => by
    have h1 := Int.lt_of_mul_lt_mul_left h1 (by omega)
    have h2 := Int.lt_of_mul_lt_mul_left h2 (by omega)
    omega
  have e0 : (s : Int) * 0 = 0 := Int.mul_zero _
  have e1 : (s : Int) * (0 + 1) = s := by rw [Int.zero_add, Int.mul_one]
  have e2 : (s : Int) * (-1) = -s := by rw [Int.mul_neg, Int.mul_one]
  have e3 : (s : Int) * (-1 + 1) = 0 := by rw [show (-1 + 1 : Int) = 0 by decide, Int.mul_zero]
  have e4 : (s : Int) * (k + 1) = s * k + s := by rw [Int.mul_add, Int.mul_one]
  have e5 : (s : Int) * (-(k : Int) - 1) = -(s * k) - s := by rw [Int.mul_sub, Int.mul_neg, Int.mul_one]
  have e6 : (s : Int) * (-(k : Int) - 1 + 1) = -(s * k) := by rw [show -(k : Int) - 1 + 1 = -k by omega, Int.mul_neg]
  have n0 := no 0
  have n1 := no (-1)
  have n2 := no k
  have n3 := no (-(k : Int) - 1)
  rw [e0, e1, ← ht] at n0
  rw [e2, e3, ← ht] at n1
  rw [e4, ← ht] at n2
  rw [e5, e6, ← ht] at n3
  rcases Nat.eq_zero_or_pos k with rfl | hk
  · simp only [Int.natCast_zero, Int.mul_zero] at hsp
    omega
  · have hp1 : 1 ≤ s * k := Nat.mul_pos hs hk
    have hsq := near_span (j := s * k - 1) h (by omega)
    rw [show s * k - 1 + 1 = s * k by omega] at hsq
    rw [show ((s * k - 1 : Nat) : Int) = (s : Int) * k - 1 by push_cast [hp1]; omega] at hsq
    have hm := span_mono (p := s * k) (m := s * k + s) hd hp1 (by omega) hp
    have oj := near_out (p := s * k) (i := s * k + j) h hd hp1 (by omega) (by omega)
    rw [hy] at oj
    have oi := near_out (p := s * k) (i := s * k + i) h hd hp1 (by omega) (by omega)
    rw [hx] at oi
    omega

-- the flags of a ruler, all of them said equal
def pcsT (len : Nat) (sz : Nat → Nat) : Nat → Nat → Nat → List Bool → List Bool
  | 0, _, _, flags => flags
  | k + 1, i, place, flags => if place + sz i > len then flags else pcsT len sz k (i + 1) (place + sz i) (flags ++ [true])
theorem pcsB_true (sz : Nat → Nat) (R : Nat → Nat → Prop) (step : ∀ i place, R i place → place + sz i ≤ d.length → flagB d place (sz i) = true ∧ R (i + 1) (place + sz i)) : ∀ (k i place : Nat) (flags : List Bool), R i place → pcsB d sz k i place flags = pcsT d.length sz k i place flags
  | 0, _, _, _, _ => rfl
  | k + 1, i, place, flags, r => by
    unfold pcsB pcsT
    split
    · rfl
    · rename_i hc
      obtain ⟨h1, h2⟩ := step i place r (by omega)
      rw [h1]
      exact pcsB_true sz R step k _ _ _ h2
theorem pcsT_all (len : Nat) (sz : Nat → Nat) : ∀ (k i place : Nat) (flags : List Bool), (∀ b ∈ flags, b = true) → ∀ b ∈ pcsT len sz k i place flags, b = true
  | 0, _, _, _, h => h
  | k + 1, i, place, flags, h => by
    unfold pcsT
    split
    · exact h
    · exact pcsT_all len sz k _ _ _ fun b hb => by
        rcases List.mem_append.mp hb with m | m
        · exact h b m
        · simpa using m
theorem near_pieces (h : nearD d n = true) (hd : d.length = n) (h8 : n ≤ 8) {j : Nat} : ∀ b ∈ pcsB d (fun _ => j + 1) (d.length + 1) 0 0 [], b = true := by
  rw [pcsB_true (d := d) (fun _ => j + 1) (fun i place => place = (j + 1) * i) (fun i place e hp => ?_) _ 0 0 [] (by simp)]
  · exact pcsT_all _ _ _ _ _ _ (by simp)
  · subst e
    exact ⟨near_flag h hd h8 (by omega) (by omega), by rw [Nat.mul_succ]⟩
theorem near_whole (h : nearD d n = true) (hd : d.length = n) (h8 : n ≤ 8) : ∀ b ∈ (piecesD d n).flatten, b = true := by
  intro b hb
  rw [pieces_eqB hd h8] at hb
  obtain ⟨l, hl, hm⟩ := List.mem_flatten.mp hb
  obtain ⟨j, _, rfl⟩ := List.mem_map.mp hl
  exact near_pieces h hd h8 b hm
theorem tot_T : ∀ (n : Fin 9) (st : Fin 4), 1 ≤ st.val → pcsT n.val (fun i => (sqAt (rulerD st.val) 4 i).toNat) (n.val + 1) 0 0 [] = totD n.val st.val := by decide +kernel
/-- the sizes of the doubled ruler, and how many of them stand before each -/
def rulerS (st : Nat) : Nat → Nat
  | 0 => st
  | 1 => st
  | 2 => 2 * st
  | _ => 4 * st
def rulerK : Nat → Nat
  | 0 => 0
  | 1 => 1
  | 2 => 1
  | i + 3 => i + 1
theorem ruler_sz (st : Nat) (i : Nat) : (sqAt (rulerD st) 4 i).toNat = rulerS st i := by
  unfold sqAt
  match i with
  | 0 => show ((st : Nat) : Int).toNat = st; omega
  | 1 => show ((st : Nat) : Int).toNat = st; omega
  | 2 => show (2 * ((st : Nat) : Int)).toNat = 2 * st; omega
  | 3 => show (4 * ((st : Nat) : Int)).toNat = 4 * st; omega
  | i + 4 =>
    rw [if_neg (by omega)]
    show (4 * ((st : Nat) : Int)).toNat = 4 * st
    omega
theorem ruler_next (st : Nat) : ∀ i, rulerS st i * rulerK i + rulerS st i = rulerS st (i + 1) * rulerK (i + 1)
  | 0 => by simp [rulerS, rulerK]
  | 1 => by simp [rulerS, rulerK]; omega
  | 2 => by simp [rulerS, rulerK]; omega
  | i + 3 => by
    show 4 * st * (i + 1) + 4 * st = 4 * st * (i + 1 + 1)
    rw [Nat.mul_succ (4 * st) (i + 1)]
theorem near_doub {st : Nat} (h : nearD d n = true) (hd : d.length = n) (h8 : n ≤ 8) (hs : 1 ≤ st ∧ st ≤ 3) : doubD d n st = totD n st := by
  rw [doub_eqB hd h8]
  unfold doubB
  rw [pcsB_true (d := d) _ (fun i place => place = rulerS st i * rulerK i) (fun i place e hp => ?_) _ 0 0 [] (by simp [rulerK])]
  · rw [hd]
    exact tot_T ⟨n, by omega⟩ ⟨st, by omega⟩ hs.1
  · subst e
    rw [ruler_sz] at hp ⊢
    refine ⟨near_flag h hd h8 ?_ (by omega), ruler_next st i⟩
    match i with
    | 0 => exact hs.1
    | 1 => exact hs.1
    | 2 => show 1 ≤ 2 * st; omega
    | i + 3 => show 1 ≤ 4 * st; omega
end
end Mine

-- part P5
namespace Mine
open PySem PySem.W PyProof.Rows

theorem insR_perm (l : List Int) (x : Int) : (insR l x).Perm (x :: l) := by
  unfold insR
  refine List.perm_middle.trans ?_
  rw [List.take_append_drop]
theorem fold_ins_perm : ∀ (sp l : List Int), (sp.foldl insR l).Perm (sp ++ l)
  | [], l => .refl _
  | x :: sp, l => by
    rw [List.foldl_cons]
    refine (fold_ins_perm sp (insR l x)).trans ?_
    refine ((insR_perm l x).append_left sp).trans ?_
    exact List.perm_middle
theorem places_perm (sp : List Int) : (places sp).Perm sp := by
  have := fold_ins_perm sp []
  rwa [List.append_nil] at this
theorem riffled_perm {sp sp' : List Int} (h : sp.Perm sp') (n : Nat) : riffled sp n = riffled sp' n := by
  have e : places sp = places sp' := sorted_unique ((places_perm sp).trans (h.trans (places_perm sp').symm)) (places_facts sp).1 (places_facts sp').1
  unfold riffled
  rw [e]

def allSubs : List Int → List (List Int)
  | [] => [[]]
  | a :: l => (allSubs l).map (a :: ·) ++ allSubs l
theorem filter_sub (p : Int → Bool) : ∀ l : List Int, l.filter p ∈ allSubs l
  | [] => by simp [allSubs]
  | a :: l => by
    unfold allSubs
    rw [List.filter_cons]
    split
    · exact List.mem_append_left _ (List.mem_map.mpr ⟨_, filter_sub p l, rfl⟩)
    · exact List.mem_append_right _ (filter_sub p l)
def revI (n : Nat) : List Int := (List.range n).map fun (j : Nat) => (n : Int) - 1 + j * (-1)
theorem rev_ids : ∀ n : Fin 9, revI n.val = (idsI n.val).reverse := by decide +kernel
def handOkB (sp : List Int) (n : Nat) : Bool := (List.range n).all fun i => if decide ((i : Int) ∈ sp) then !(handGo sp n i).pile.isEmpty else !(handGo sp n i).rest.isEmpty
def maskB (sp : List Int) (n : Nat) : Bool := handOkB sp n && decide (riffled sp n = handD sp n)
def maskN (sp : List Int) (n : Nat) : Bool := nearD (riffled sp n) n && inR (riffled sp n) n
def maskChk (n : Nat) : Bool := (allSubs (revI n)).all fun sp => maskB sp n
def maskNear (n : Nat) : Bool := (allSubs (revI n)).all fun sp => maskN sp n
theorem mask1 : maskChk 1 = true := by decide +kernel
theorem mask2 : maskChk 2 = true := by decide +kernel
theorem mask3 : maskChk 3 = true := by decide +kernel
theorem mask4 : maskChk 4 = true := by decide +kernel
theorem mask5 : maskChk 5 = true := by decide +kernel
theorem mask6 : maskChk 6 = true := by decide +kernel
theorem mask7 : maskChk 7 = true := by decide +kernel
theorem mask8 : maskChk 8 = true := by decide +kernel
theorem mnear1 : maskNear 1 = true := by decide +kernel
theorem mnear2 : maskNear 2 = true := by decide +kernel
theorem mnear3 : maskNear 3 = true := by decide +kernel
theorem mnear4 : maskNear 4 = true := by decide +kernel
theorem mnear5 : maskNear 5 = true := by decide +kernel
theorem mnear6 : maskNear 6 = true := by decide +kernel
theorem mnear7 : maskNear 7 = true := by decide +kernel
theorem mnear8 : maskNear 8 = true := by decide +kernel
theorem mask_chk {n : Nat} (h1 : 1 ≤ n) (h8 : n ≤ 8) : maskChk n = true ∧ maskNear n = true := by
  have : n = 1 ∨ n = 2 ∨ n = 3 ∨ n = 4 ∨ n = 5 ∨ n = 6 ∨ n = 7 ∨ n = 8 := by omega
  rcases this with rfl | rfl | rfl | rfl | rfl | rfl | rfl | rfl
  · exact ⟨mask1, mnear1⟩
  · exact ⟨mask2, mnear2⟩
  · exact ⟨mask3, mnear3⟩
  · exact ⟨mask4, mnear4⟩
  · exact ⟨mask5, mnear5⟩
  · exact ⟨mask6, mnear6⟩
  · exact ⟨mask7, mnear7⟩
  · exact ⟨mask8, mnear8⟩
theorem spots_sub (n : Nat) (c : Int) : spotsD n c ∈ allSubs (revI n) := filter_sub _ _
theorem handOk_of {sp : List Int} {n : Nat} (h : handOkB sp n = true) : handOk sp n := fun i => by
  have := List.all_eq_true.mp h i.val (List.mem_range.mpr i.isLt)
  constructor
  · intro m e
    rw [decide_eq_true m, if_pos rfl, e] at this
    simp at this
  · intro m e
    rw [decide_eq_false m, if_neg (by decide), e] at this
    simp at this
theorem spots_facts {n : Nat} (h1 : 1 ≤ n) (h8 : n ≤ 8) (c : Int) : handOk (spotsD n c) n ∧ riffled (spotsD n c) n = handD (spotsD n c) n ∧ nearD (riffled (spotsD n c) n) n = true ∧ inR (riffled (spotsD n c) n) n = true := by
  obtain ⟨k1, k2⟩ := mask_chk h1 h8
  have a := List.all_eq_true.mp k1 _ (spots_sub n c)
  have b := List.all_eq_true.mp k2 _ (spots_sub n c)
  unfold maskB at a
  unfold maskN at b
  simp only [Bool.and_eq_true, decide_eq_true_eq] at a b
  exact ⟨handOk_of a.1, a.2, b.1, b.2⟩
theorem riffled_len (sp : List Int) (n : Nat) : (riffled sp n).length = n := by simp [riffled]
theorem again_near {d : List Int} {n : Nat} (h1 : 1 ≤ n) (h8 : n ≤ 8) (h : againD d n = true) : nearD d n = true := by
  have e := of_decide_eq_true h
  have p : (lowsD d n).Perm ((revI n).filter fun i => decide (d.getD i.toNat 0 ≤ d.getD 0 0)) := by
    rw [rev_ids ⟨n, by omega⟩]
    exact List.Perm.filter _ (List.reverse_perm _).symm
  rw [riffled_perm p] at e
  have b := List.all_eq_true.mp (mask_chk h1 h8).2 _ (filter_sub (fun i => decide (d.getD i.toNat 0 ≤ d.getD 0 0)) (revI n))
  unfold maskN at b
  rw [e] at b
  simp only [Bool.and_eq_true] at b
  exact b.1
end Mine

-- part P6
namespace Mine
open PySem PySem.W PyProof.Rows

theorem ids_mem {n : Nat} {a : Int} : a ∈ idsI n ↔ 0 ≤ a ∧ a < n := by
  unfold idsI
  rw [List.mem_map]
  constructor
  · rintro ⟨j, hj, rfl⟩
    have := List.mem_range.mp hj
    omega
  · intro h
    exact ⟨a.toNat, List.mem_range.mpr (by omega), by omega⟩
theorem ids_nodup (n : Nat) : (idsI n).Nodup := by
  unfold idsI
  refine List.pairwise_map.mpr ?_
  exact List.nodup_range.imp fun h e => h (by omega)
theorem pcsB_head (d : List Int) (sz : Nat → Nat) (b : Bool) : ∀ (k i place : Nat) (l : List Bool), (pcsB d sz k i place (b :: l)).getD 0 false = b
  | 0, _, _, _ => rfl
  | k + 1, i, place, l => by
    unfold pcsB
    split
    · rfl
    · exact pcsB_head d sz b k _ _ _

section
variable {d : List Int} {n : Nat}
theorem perm_bound (p : d.Perm (idsI n)) : ∀ a ∈ d, 0 ≤ a ∧ a < n := fun a m => ids_mem.mp (p.mem_iff.mp m)
theorem perm_len (p : d.Perm (idsI n)) : d.length = n := p.length_eq.trans (ids_len n)
theorem perm_inR (p : d.Perm (idsI n)) : inR d n = true := List.all_eq_true.mpr fun a m => by
  have := perm_bound p a m
  simp only [Bool.and_eq_true, decide_eq_true_eq]; exact this
theorem perm_nodup (p : d.Perm (idsI n)) : d.Nodup := p.nodup_iff.mpr (ids_nodup n)

/-- of different cards the greatest and the least lie far enough apart -/
theorem span_ge (hn : d.Nodup) {m : Nat} (h1 : 1 ≤ m) (hm : m ≤ d.length) : (m : Int) ≤ mxL (d.take m) - mnL (d.take m) + 1 := by
  have ne := take_ne h1 hm
  obtain ⟨a1, a2⟩ := mxL_facts ne
  obtain ⟨b1, b2⟩ := mnL_facts ne
  have hnd : (d.take m).Nodup := hn.sublist (List.take_sublist _ _)
  have := nodup_le (mxL (d.take m) - mnL (d.take m) + 1).toNat ((d.take m).map fun x => (x - mnL (d.take m)).toNat) (by
    refine List.pairwise_map.mpr ?_
    refine List.Pairwise.imp_of_mem ?_ hnd
    intro x y hx hy hne e
    have := b2 x hx
    have := b2 y hy
    omega) (by
    intro x hx
    obtain ⟨y, hy, rfl⟩ := List.mem_map.mp hx
    have := b2 y hy
    have := a2 y hy
    omega)
  rw [List.length_map, List.length_take] at this
  have := a2 _ b1
  omega
theorem first_false (p : d.Perm (idsI n)) (h8 : n ≤ 8) (hn : nearD d n = false) : false ∈ firstsD (piecesD d n) := by
  have hd := perm_len p
  have hnd := perm_nodup p
  have hb := perm_bound p
  have hne : spanD d n ≠ idsI n := of_decide_eq_false hn
  obtain ⟨j, hj, hs⟩ : ∃ j, j < n ∧ mxL (d.take (j + 1)) - mnL (d.take (j + 1)) ≠ (j : Int) := by
    apply Decidable.byContradiction
    intro c
    refine hne ?_
    unfold spanD idsI
    apply List.map_congr_left
    intro j hj
    apply Decidable.byContradiction
    intro c'
    exact c ⟨j, List.mem_range.mp hj, c'⟩
  have hge := span_ge hnd (m := j + 1) (by omega) (by omega)
  have ne := take_ne (d := d) (j := j + 1) (by omega) (by omega)
  obtain ⟨i1, hi1, hl1, e1⟩ := mem_take (mxL_facts ne).1
  obtain ⟨i2, hi2, hl2, e2⟩ := mem_take (mnL_facts ne).1
  have b1 := hb _ (List.mem_of_mem_take (mxL_facts ne).1)
  have b2 := hb _ (List.mem_of_mem_take (mnL_facts ne).1)
  obtain ⟨D, hD⟩ : ∃ D : Nat, mxL (d.take (j + 1)) - mnL (d.take (j + 1)) = D := ⟨(mxL (d.take (j + 1)) - mnL (d.take (j + 1))).toNat, by omega⟩
  have hf : flagB d 0 D = false := by
    rw [e1, e2] at hD
    rcases Nat.lt_trichotomy i1 i2 with q | q | q
    · refine flag_of_same (i := i1) (j := i2) (by omega) q (by omega) ⟨1, ?_⟩
      rw [Nat.zero_add, Nat.zero_add, Int.mul_one]; exact hD
    · subst q; omega
    · refine flag_of_same (i := i2) (j := i1) (by omega) q (by omega) ⟨-1, ?_⟩
      rw [Nat.zero_add, Nat.zero_add]; omega
  rw [pieces_eqB hd h8]
  unfold firstsD
  refine List.mem_map.mpr ⟨_, List.mem_map.mpr ⟨D - 1, List.mem_range.mpr (by omega), rfl⟩, ?_⟩
  rw [show D - 1 + 1 = D by omega, hd]
  unfold pcsB
  rw [if_neg (by omega), hf]
  exact pcsB_head d _ false _ _ _ _

theorem deck_ok (h1 : 1 ≤ n) (h8 : n ≤ 8) (p : d.Perm (idsI n)) : DeckOk d n := by
  have hd := perm_len p
  refine ⟨hd, lens_all hd h8, ?_, ?_⟩
  · cases hn : nearD d n with
    | true => exact near_again h1 h8 hn hd (perm_inR p)
    | false =>
      cases ha : againD d n with
      | false => rfl
      | true => rw [again_near h1 h8 ha] at hn; cases hn
  · cases hn : nearD d n with
    | true =>
      rw [if_pos rfl, decide_eq_false]
      · rfl
      · intro m
        have := near_whole hn hd h8 _ m
        cases this
    | false =>
      rw [if_neg (by decide), decide_eq_true (first_false p h8 hn)]; rfl
end

/-- a near deck within the bounds is a permutation -/
theorem near_perm {d : List Int} {n : Nat} (h : nearD d n = true) (hd : d.length = n) (hr : inR d n = true) : d.Perm (idsI n) := by
  have hb : ∀ a ∈ d, 0 ≤ a ∧ a < n := fun a m => by
    have := List.all_eq_true.mp hr a m
    simpa using this
  have hnd : (d.map Int.toNat).Nodup := by
    refine List.pairwise_map.mpr ?_
    refine List.pairwise_iff_getElem.mpr fun i j hi hj hij e => ?_
    have ne := near_ne (i := i) (j := j) h hd hij (by omega)
    rw [List.getD_eq_getElem?_getD, List.getD_eq_getElem?_getD, List.getElem?_eq_getElem hi, List.getElem?_eq_getElem hj] at ne
    simp only [Option.getD_some] at ne
    have := hb _ (List.getElem_mem hi)
    have := hb _ (List.getElem_mem hj)
    omega
  have hp := nodup_perm n (d.map Int.toNat) hnd (fun x hx => by
    obtain ⟨a, ha, rfl⟩ := List.mem_map.mp hx
    have := hb a ha
    omega) (by rw [List.length_map, hd])
  have := hp.map (fun k : Nat => (k : Int))
  rw [List.map_map] at this
  have e : d.map ((fun k : Nat => (k : Int)) ∘ Int.toNat) = d := by
    conv => rhs; rw [← List.map_id d]
    apply List.map_congr_left
    intro a ha
    have := hb a ha
    show ((a.toNat : Nat) : Int) = a
    omega
  rw [e] at this
  exact this
theorem riffled_ids {n : Nat} (h1 : 1 ≤ n) (h8 : n ≤ 8) (c : Int) : (riffled (spotsD n c) n).Perm (idsI n) := by
  obtain ⟨_, _, a, b⟩ := spots_facts h1 h8 c
  exact near_perm a (riffled_len _ _) b
end Mine

-- part P7
namespace Mine
open PySem PySem.W PyProof.Rows

theorem map_getD {d : List Int} {n : Nat} (hd : d.length = n) : (List.range n).map (fun i => d.getD i 0) = d := by
  apply List.ext_getElem
  · simp [hd]
  · intro i h1 h2
    rw [List.getElem_map, List.getElem_range, List.getD_eq_getElem?_getD, List.getElem?_eq_getElem h2]; rfl
theorem swap_inj {one two i j : Int} (h : swapI one two i = swapI one two j) : i = j := by
  unfold swapI at h
  split at h <;> split at h <;> (try split at h) <;> (try split at h) <;> omega
theorem bent_perm {rd : List Int} {n : Nat} {one two : Int} (p : rd.Perm (idsI n)) (h1 : 0 ≤ one ∧ one < n) (h2 : 0 ≤ two ∧ two < n) : (bentD rd n one two).Perm (idsI n) := by
  have hp := nodup_perm n ((List.range n).map fun (i : Nat) => (swapI one two i).toNat) (by
    refine List.pairwise_map.mpr ?_
    refine List.Pairwise.imp_of_mem ?_ (List.nodup_range (n := n))
    intro i j hi hj hne e
    have hi := List.mem_range.mp hi
    have hj := List.mem_range.mp hj
    have a := swapI_range h1 h2 (i := (i : Int)) ⟨by omega, by omega⟩
    have b := swapI_range h1 h2 (i := (j : Int)) ⟨by omega, by omega⟩
    have := swap_inj (one := one) (two := two) (i := (i : Int)) (j := (j : Int)) (by omega)
    omega) (by
    intro x hx
    obtain ⟨i, hi, rfl⟩ := List.mem_map.mp hx
    have hi := List.mem_range.mp hi
    have a := swapI_range h1 h2 (i := (i : Int)) ⟨by omega, by omega⟩
    omega) (by simp)
  have := hp.map (fun i => rd.getD i 0)
  rw [List.map_map, map_getD (perm_len p)] at this
  exact this.trans p
theorem take_out {l dk : List Int} {k : Nat} (h : k < l.length) : (l.eraseIdx k ++ (dk ++ [l.getD k 0])).Perm (l ++ dk) := by
  have e : l = l.take k ++ l.getD k 0 :: l.drop (k + 1) := by
    rw [List.getD_eq_getElem?_getD, List.getElem?_eq_getElem h, Option.getD_some, ← List.drop_eq_getElem_cons h, List.take_append_drop]
  rw [List.eraseIdx_eq_take_drop_succ]
  refine List.perm_iff_count.mpr fun a => ?_
  have c := congrArg (List.count a) e
  rw [List.count_append, List.count_cons] at c
  simp only [List.count_append, List.count_cons, List.count_nil]
  omega
theorem drawn_perm {n : Nat} {num : Int} (h0 : 0 ≤ num) (h1 : num < 2 ^ 40) : ∀ i, i ≤ n → ((drwGo n num i).rest ++ (drwGo n num i).deck).Perm (idsI n)
  | 0, _ => by
    unfold drwGo
    rw [List.append_nil]; exact .refl _
  | i + 1, hi => by
    obtain ⟨a, b, c, e⟩ := drw_facts (n := n) h0 h1 i (by omega)
    have ih := drawn_perm (n := n) h0 h1 i (by omega)
    have f0 : 0 ≤ (drwGo n num i).num.fmod ((n : Int) - i) := Int.fmod_nonneg_of_pos _ (by omega)
    have f1 : (drwGo n num i).num.fmod ((n : Int) - i) < (n : Int) - i := Int.fmod_lt_of_pos _ (by omega)
    simp only [drwGo]
    refine List.Perm.trans ?_ ih
    exact take_out (by omega)
theorem drawn_ids {n : Nat} {num : Int} (h0 : 0 ≤ num) (h1 : num < 2 ^ 40) : (drawn n num).Perm (idsI n) := by
  have := drawn_perm (n := n) h0 h1 n (Nat.le_refl _)
  have hl := (drw_facts (n := n) h0 h1 n (Nat.le_refl _)).1
  rw [List.length_eq_zero_iff.mp (by omega : (drwGo n num n).rest.length = 0)] at this
  exact this
theorem cast_perm {d : List Int} {n : Nat} (hb : ∀ a ∈ d, 0 ≤ a) (hp : (d.map Int.toNat).Perm (List.range n)) : d.Perm (idsI n) := by
  have := hp.map (fun k : Nat => (k : Int))
  rw [List.map_map] at this
  have e : d.map ((fun k : Nat => (k : Int)) ∘ Int.toNat) = d := by
    conv => rhs; rw [← List.map_id d]
    apply List.map_congr_left
    intro a ha
    have := hb a ha
    show ((a.toNat : Nat) : Int) = a
    omega
  rw [e] at this
  exact this
theorem ids_toNat (n : Nat) : (idsI n).map Int.toNat = List.range n := by
  unfold idsI
  rw [List.map_map]
  conv => rhs; rw [← List.map_id (List.range n)]
  apply List.map_congr_left
  intro a _
  show ((a : Nat) : Int).toNat = a
  omega
theorem ids_sorted (n : Nat) : (idsI n).Pairwise (· ≤ ·) := by
  unfold idsI
  refine List.pairwise_map.mpr ?_
  exact (List.pairwise_lt_range (n := n)).imp fun h => by omega

theorem runs_split (l : List Int) (e : List Nat) : runsT l e = ((l.map Int.toNat).map runT).flatten ++ e := by
  unfold runsT
  rw [List.map_map]; rfl
theorem lead_law {mv : List Int} {n : Nat} (h8 : n ≤ 8) (hb : ∀ a ∈ mv, 0 ≤ a) : decide (wsOf (tx (runsT mv [120])) = (fullsD n).getD n ([], 0)) = decide (isort mv = idsI n) := by
  rw [full_norm (Nat.le_refl _) h8, runs_split, wsOf_tx, wsRun_runs]
  refine decide_eq_decide.mpr ?_
  show ((mv.map Int.toNat).foldl bump [], 0) = ((List.replicate n 1 : List Int), 0) ↔ _
  constructor
  · intro e
    have e1 : (mv.map Int.toNat).foldl bump [] = List.replicate n 1 := congrArg Prod.fst e
    have hp : (mv.map Int.toNat).Perm (List.range n) := by
      refine List.perm_iff_count.mpr fun k => ?_
      have h1 := fold_getD (mv.map Int.toNat) [] k
      have h2 := fold_getD (List.range n) [] k
      rw [e1] at h1
      rw [rep_fold ⟨n, by omega⟩] at h2
      simp only [List.getD_nil] at h1 h2
      omega
    exact sorted_unique ((isort_perm mv).trans (cast_perm hb hp)) (isort_sorted mv) (ids_sorted n)
  · intro e
    have hp : mv.Perm (idsI n) := by rw [← e]; exact (isort_perm mv).symm
    have hq := hp.map Int.toNat
    rw [ids_toNat] at hq
    rw [fold_perm hq, rep_fold ⟨n, by omega⟩]
theorem half_ids : ∀ n : Fin 9, ((halfD (idsI n.val)).map Int.toNat).foldl bump [] = normD n.val := by decide +kernel
theorem half_law {dd : List Int} {n one : Nat} (h8 : n ≤ 8) (p : dd.Perm (idsI n)) : wsOf (tx (halfT dd one)) = (normD n, one) := by
  have e : halfT dd one = (((halfD dd).map Int.toNat).map runT).flatten ++ (List.replicate one 32 ++ [120]) := by
    unfold halfT
    rw [List.map_map, List.append_assoc]; rfl
  rw [e, wsOf_tx, wsRun_runs, wsRun_spaces]
  show (((halfD dd).map Int.toNat).foldl bump [], 0 + one) = _
  have hp : ((halfD dd).map Int.toNat).Perm ((halfD (idsI n)).map Int.toNat) := by
    unfold halfD
    exact (p.map _).map _
  rw [fold_perm hp, half_ids ⟨n, by omega⟩, Nat.zero_add]
theorem moved_bound {bd : List Int} {n : Nat} {one two : Int} (h8 : n ≤ 8) (p : bd.Perm (idsI n)) : ∀ a ∈ movedD bd one two, 0 ≤ a ∧ a ≤ 9 := fun a m => by
  unfold movedD at m
  obtain ⟨i, hi, rfl⟩ := List.mem_mapIdx.mp m
  have := perm_bound p _ (List.getElem_mem hi)
  unfold moveAt
  split
  · split <;> omega
  · split <;> omega

theorem plain_all {n : Nat} (h1 : 1 ≤ n) (h8 : n ≤ 8) {c1 c2 c3 : Int} (d0 : 0 ≤ c3) (d1 : c3 < 10 ^ 6) : Plain n c1 c2 c3 := by
  have q0 := Int.fmod_nonneg_of_pos c2 (show (0 : Int) < n by omega)
  have q1 := Int.fmod_lt_of_pos c2 (show (0 : Int) < n by omega)
  have r0 := Int.fmod_nonneg_of_pos (c2.fdiv 8) (show (0 : Int) < n by omega)
  have r1 := Int.fmod_lt_of_pos (c2.fdiv 8) (show (0 : Int) < n by omega)
  obtain ⟨f1, f2, f3, f4⟩ := spots_facts h1 h8 c1
  have pr := riffled_ids h1 h8 c1
  have pb := bent_perm pr ⟨q0, q1⟩ ⟨r0, r1⟩
  have pd : (drawn n c3).Perm (idsI n) := drawn_ids d0 (by omega)
  have mb := moved_bound (one := c2.fmod n) (two := (c2.fdiv 8).fmod n) h8 pb
  exact {
    hok := f1
    heq := f2
    g1 := deck_ok h1 h8 pr
    g2 := deck_ok h1 h8 pb
    g3 := deck_ok h1 h8 pd
    mvb := mb
    e15 := lead_law h8 fun a m => (mb a m).1
    drb := fun a m => by have := perm_bound pd a m; omega
    e17 := half_law h8 pd
    e20 := near_doub f3 (riffled_len _ _) h8 (step_range c3) }
end Mine

-- part F
open PySem PySem.W PyProof.Rows

namespace Mine
/-- what law's proof reads of the heap that the top leaves: the defs by their places in the text -/
def stA (i : Nat) : Stmt := (PySem.Challenge.pw_rs0170_01.main.body[i]?).getD (.Pass ⟨0, 0, 0, 0⟩)
def mtA (i : Nat) : Stmt := match stA 9 with
  | .ClassDef _ _ _ b .. => (b[i]?).getD (.Pass ⟨0, 0, 0, 0⟩)
  | s => s
def fnObj (st : Stmt) (nm q : Str) (dv kv pm : Value) (cd : Addr) : Obj := match st with
  | .FunctionDef _ ps b _ _ _ sc _ _ _ => { cls := .type "function", data := .func { name := nm, qualname := q, params := ps, body := .stmts b, scope := sc, globals := 3, closure := [], defaults := dv, kwdefaults := kv, pyModule := pm, code := .ref cd } }
  | _ => { cls := .none, data := .fields #[] }
def KK (P : Params) : Frag := [
  (2, { cls := Value.none, data := Data.dict #[] }),
  (3, { cls := Value.type "dict", data := Data.dict #[{ hash := PyData.keyHash P "__name__", key := Value.str "__name__" 165, val := Value.str "law_rs0170_01" 344 }, { hash := PyData.keyHash P "__doc__", key := Value.str "__doc__" 166, val := Value.none }, { hash := PyData.keyHash P "__package__", key := Value.str "__package__" 167, val := Value.none }, { hash := PyData.keyHash P "__loader__", key := Value.str "__loader__" 168, val := Value.builtin "__main__.__loader__#opaque" }, { hash := PyData.keyHash P "__spec__", key := Value.str "__spec__" 169, val := Value.none }, { hash := PyData.keyHash P "__annotations__", key := Value.str "__annotations__" 170, val := Value.ref 6 }, { hash := PyData.keyHash P "__builtins__", key := Value.str "__builtins__" 171, val := Value.ref 4 }, { hash := PyData.keyHash P "__file__", key := Value.str "__file__" 173, val := Value.str "/claim/cut.py" 172 }, { hash := PyData.keyHash P "__cached__", key := Value.str "__cached__" 174, val := Value.none }, { hash := PyData.keyHash P "_wall", key := Value.str "_wall" 193, val := Value.ref 21 }, { hash := PyData.keyHash P "insort_right", key := Value.str "insort_right" 208, val := Value.ref 30 }, { hash := PyData.keyHash P "bisect_right", key := Value.str "bisect_right" 222, val := Value.ref 39 }, { hash := PyData.keyHash P "bisect_left", key := Value.str "bisect_left" 236, val := Value.ref 48 }, { hash := PyData.keyHash P "CHAR_MAX", key := Value.str "CHAR_MAX" 240, val := Value.int 127 239 }, { hash := PyData.keyHash P "_grouping_intervals", key := Value.str "_grouping_intervals" 249, val := Value.ref 55 }, { hash := PyData.keyHash P "Whitespace", key := Value.str "Whitespace" 343, val := Value.ref 117 }, { hash := PyData.keyHash P "_law_riffled", key := Value.str "_law_riffled" 357, val := Value.ref 128 }, { hash := PyData.keyHash P "_law_drawn", key := Value.str "_law_drawn" 368, val := Value.ref 135 }, { hash := PyData.keyHash P "_law_pieces", key := Value.str "_law_pieces" 374, val := Value.ref 140 }, { hash := PyData.keyHash P "law", key := Value.str "law" 380, val := Value.ref 145 }] 20 }),
  (22, { cls := Value.type "tuple", data := Data.seq #[Value.int 0 196, Value.none] }),
  (23, { cls := Value.type "dict", data := Data.dict #[{ hash := PyData.keyHash P "key", key := Value.str "key" 197, val := Value.none }] 1 }),
  (29, { cls := Value.type "code", data := Data.fields #[Value.str "insort_right" 198, Value.str "insort_right" 199, Value.str "/claim/cut.py" 200, Value.int 5 0, Value.int 4 0, Value.int 0 0, Value.int 1 0, Value.int 3 0, Value.ref 24, Value.bool true, Value.int 181 0, Value.ref 25, Value.none, Value.ref 26, Value.ref 27, Value.ref 28, Value.int 206 0, Value.int 5 0, Value.str "/claim/cut.py" 207] }),
  (30, fnObj (stA 2) "insort_right" "insort_right" (.ref 22) (.ref 23) (.str "cpy313.bisect" 194) 29),
  (31, { cls := Value.type "tuple", data := Data.seq #[Value.int 0 209, Value.none] }),
  (32, { cls := Value.type "dict", data := Data.dict #[{ hash := PyData.keyHash P "key", key := Value.str "key" 210, val := Value.none }] 1 }),
  (38, { cls := Value.type "code", data := Data.fields #[Value.str "bisect_right" 211, Value.str "bisect_right" 212, Value.str "/claim/cut.py" 213, Value.int 11 0, Value.int 4 0, Value.int 0 0, Value.int 1 0, Value.int 3 0, Value.ref 33, Value.bool true, Value.int 181 0, Value.ref 34, Value.none, Value.ref 35, Value.ref 36, Value.ref 37, Value.int 220 0, Value.int 11 0, Value.str "/claim/cut.py" 221] }),
  (39, fnObj (stA 3) "bisect_right" "bisect_right" (.ref 31) (.ref 32) (.str "cpy313.bisect" 194) 38),
  (40, { cls := Value.type "tuple", data := Data.seq #[Value.int 0 223, Value.none] }),
  (41, { cls := Value.type "dict", data := Data.dict #[{ hash := PyData.keyHash P "key", key := Value.str "key" 224, val := Value.none }] 1 }),
  (47, { cls := Value.type "code", data := Data.fields #[Value.str "bisect_left" 225, Value.str "bisect_left" 226, Value.str "/claim/cut.py" 227, Value.int 31 0, Value.int 4 0, Value.int 0 0, Value.int 1 0, Value.int 3 0, Value.ref 42, Value.bool true, Value.int 181 0, Value.ref 43, Value.none, Value.ref 44, Value.ref 45, Value.ref 46, Value.int 234 0, Value.int 31 0, Value.str "/claim/cut.py" 235] }),
  (48, fnObj (stA 4) "bisect_left" "bisect_left" (.ref 40) (.ref 41) (.str "cpy313.bisect" 194) 47),
  (54, { cls := Value.type "code", data := Data.fields #[Value.str "_grouping_intervals" 241, Value.str "_grouping_intervals" 242, Value.str "/claim/cut.py" 243, Value.int 53 0, Value.int 1 0, Value.int 0 0, Value.int 0 0, Value.int 35 0, Value.ref 49, Value.bool true, Value.int 181 0, Value.ref 50, Value.none, Value.ref 51, Value.ref 52, Value.ref 53, Value.int 247 0, Value.int 53 0, Value.str "/claim/cut.py" 248] }),
  (55, fnObj (stA 7) "_grouping_intervals" "_grouping_intervals" (.none) (.none) (.str "cpy313.locale" 237) 54),
  (71, { cls := Value.type "code", data := Data.fields #[Value.str "__init__" 269, Value.str "Whitespace.__init__" 270, Value.str "/claim/cut.py" 271, Value.int 69 0, Value.int 2 0, Value.int 0 0, Value.int 0 0, Value.int 3 0, Value.ref 66, Value.bool true, Value.int 181 0, Value.ref 67, Value.none, Value.ref 68, Value.ref 69, Value.ref 70, Value.int 281 0, Value.int 69 0, Value.str "/claim/cut.py" 282] }),
  (72, fnObj (mtA 1) "__init__" "Whitespace.__init__" (.none) (.none) (.str "cpy313.tabnanny" 250) 71),
  (92, { cls := Value.type "code", data := Data.fields #[Value.str "equal" 299, Value.str "Whitespace.equal" 300, Value.str "/claim/cut.py" 301, Value.int 98 0, Value.int 2 0, Value.int 0 0, Value.int 0 0, Value.int 3 0, Value.ref 87, Value.bool true, Value.int 181 0, Value.ref 88, Value.none, Value.ref 89, Value.ref 90, Value.ref 91, Value.int 304 0, Value.int 98 0, Value.str "/claim/cut.py" 305] }),
  (93, fnObj (mtA 4) "equal" "Whitespace.equal" (.none) (.none) (.str "cpy313.tabnanny" 250) 92),
  (116, { cls := Value.type "dict", data := Data.dict #[{ hash := PyData.keyHash P "__module__", key := Value.str "__module__" 259, val := Value.str "cpy313.tabnanny" 250 }, { hash := PyData.keyHash P "__firstlineno__", key := Value.str "__firstlineno__" 263, val := Value.int 66 262 }, { hash := PyData.keyHash P "S", key := Value.str "S" 267, val := Value.str " " 265 }, { hash := PyData.keyHash P "T", key := Value.str "T" 268, val := Value.str "\t" 266 }, { hash := PyData.keyHash P "__init__", key := Value.str "__init__" 283, val := Value.ref 72 }, { hash := PyData.keyHash P "longest_run_of_spaces", key := Value.str "longest_run_of_spaces" 290, val := Value.ref 79 }, { hash := PyData.keyHash P "indent_level", key := Value.str "indent_level" 298, val := Value.ref 86 }, { hash := PyData.keyHash P "equal", key := Value.str "equal" 306, val := Value.ref 93 }, { hash := PyData.keyHash P "not_equal_witness", key := Value.str "not_equal_witness" 314, val := Value.ref 100 }, { hash := PyData.keyHash P "less", key := Value.str "less" 322, val := Value.ref 107 }, { hash := PyData.keyHash P "not_less_witness", key := Value.str "not_less_witness" 330, val := Value.ref 114 }, { hash := PyData.keyHash P "__static_attributes__", key := Value.str "__static_attributes__" 336, val := Value.ref 115 }, { hash := PyData.keyHash P "__dict__", key := Value.str "__dict__" 338, val := Value.ref 118 }, { hash := PyData.keyHash P "__weakref__", key := Value.str "__weakref__" 340, val := Value.ref 119 }, { hash := PyData.keyHash P "__doc__", key := Value.str "__doc__" 341, val := Value.none }] 4 }),
  (117, { cls := Value.type "type", data := Data.cls { name := "Whitespace", bases := [Value.type "object"], mro := [Value.ref 117, Value.type "object"], ns := 116, qualname := "Whitespace" }, slots := #[none, none, some (Value.str "Whitespace" 252), some (Value.str "Whitespace" 260), some (Value.builtin "object.__new__"), some (Value.bool true)] }),
  (127, { cls := Value.type "code", data := Data.fields #[Value.str "_law_riffled" 346, Value.str "_law_riffled" 347, Value.str "/claim/cut.py" 348, Value.int 110 0, Value.int 2 0, Value.int 0 0, Value.int 0 0, Value.int 3 0, Value.ref 122, Value.bool true, Value.int 181 0, Value.ref 123, Value.none, Value.ref 124, Value.ref 125, Value.ref 126, Value.int 355 0, Value.int 110 0, Value.str "/claim/cut.py" 356] }),
  (128, fnObj (stA 11) "_law_riffled" "_law_riffled" (.none) (.none) (.str "law_rs0170_01" 344) 127),
  (134, { cls := Value.type "code", data := Data.fields #[Value.str "_law_drawn" 358, Value.str "_law_drawn" 359, Value.str "/claim/cut.py" 360, Value.int 122 0, Value.int 2 0, Value.int 0 0, Value.int 0 0, Value.int 3 0, Value.ref 129, Value.bool true, Value.int 181 0, Value.ref 130, Value.none, Value.ref 131, Value.ref 132, Value.ref 133, Value.int 366 0, Value.int 122 0, Value.str "/claim/cut.py" 367] }),
  (135, fnObj (stA 12) "_law_drawn" "_law_drawn" (.none) (.none) (.str "law_rs0170_01" 344) 134),
  (139, { cls := Value.type "code", data := Data.fields #[Value.str "_law_pieces" 369, Value.str "_law_pieces" 370, Value.str "/claim/cut.py" 371, Value.int 129 0, Value.int 3 0, Value.int 0 0, Value.int 0 0, Value.int 3 0, Value.ref 136, Value.bool true, Value.int 181 0, Value.ref 137, Value.none, Value.none, Value.none, Value.ref 138, Value.int 372 0, Value.int 129 0, Value.str "/claim/cut.py" 373] }),
  (140, fnObj (stA 13) "_law_pieces" "_law_pieces" (.none) (.none) (.str "law_rs0170_01" 344) 139),
  (144, { cls := Value.type "code", data := Data.fields #[Value.str "law" 375, Value.str "law" 376, Value.str "/claim/cut.py" 377, Value.int 139 0, Value.int 1 0, Value.int 0 0, Value.int 0 0, Value.int 3 0, Value.ref 141, Value.bool true, Value.int 181 0, Value.ref 142, Value.none, Value.none, Value.none, Value.ref 143, Value.int 378 0, Value.int 139 0, Value.str "/claim/cut.py" 379] }),
  (145, fnObj (stA 14) "law" "law" (.none) (.none) (.str "law_rs0170_01" 344) 144)]
end Mine

theorem Mine.plain_of (ns : List Int) : Mine.Plain (Mine.sizeD ns) ((Mine.cellsD ns).getD 1 0) ((Mine.cellsD ns).getD 2 0) ((Mine.cellsD ns).getD 3 0) :=
  Mine.plain_all (Mine.size_facts ns).1 (Mine.size_facts ns).2.1 (Mine.cells_get ns 3 (by decide)).1 (Mine.cells_get ns 3 (by decide)).2

set_option maxRecDepth 100000 in
set_option maxHeartbeats 0 in
theorem PySem.Challenge.cw_rs0170_01_holds : PySem.Challenge.rw_rs0170_01.Holds := by
  w_on
  o_law
  o_head (kHook Mine.KK [2, 3, 22, 23, 29, 30, 31, 32, 38, 39, 40, 41, 47, 48, 54, 55, 71, 72, 92, 93, 116, 117, 127, 128, 134, 135, 139, 140, 144, 145] (fun _ => by kernel_rfl))
  (case hw => w_witness2)
  intro w s₀ s₁ mg mb G Y fa o pm cd doc dV kV ho hd hcd hD hmg hg args vals as hpre hlay hrd hwl hlo
  have KX := kIn_of Y
  refine Ground.open G ?_
  intro T B D TE TW
  wrow_args hpre hlay hrd hwl hlo
  clear hd hcd hD
  have hla : mg (Str.ofString "law") = some (.ref 145) := mg_of KX T.g (by kernel_rfl)
  have hfa : fa = 145 := by
    have h2 := hla.symm.trans (show mg (Str.ofString "law") = some (.ref fa) from hmg.trans rfl)
    exact (Value.ref.inj (Option.some.inj h2)).symm
  subst hfa
  dsimp only
  refine Mine.fin_law2 KX T ?lf hg (by assumption) (by assumption) (by omega) (Mine.plain_of _) (fun _ => rfl) ?po
  case po => first | rfl | wrow_post
  case lf =>
    refine {
      D := {
        hbl := ⟨Mine.fnOK_of (by kernel_rfl) (by kernel_rfl) (by kernel_rfl) (by kernel_rfl) (by kernel_rfl) (by kernel_rfl) (by kernel_rfl) (by kernel_rfl), by kernel_rfl⟩
        hbr := ⟨Mine.fnOK_of (by kernel_rfl) (by kernel_rfl) (by kernel_rfl) (by kernel_rfl) (by kernel_rfl) (by kernel_rfl) (by kernel_rfl) (by kernel_rfl), by kernel_rfl⟩
        len := mg_none_of KX T.g (by kernel_rfl)
        len' := (T.builtins _ (by decide)).trans (by kernel_rfl)
        bindl := ⟨223, fun u v S => by kernel_rfl⟩
        bindr := ⟨209, fun u v S => by kernel_rfl⟩
        bindr4 := fun u v a b S => by kernel_rfl
        hin := ⟨Mine.fnOK_of (by kernel_rfl) (by kernel_rfl) (by kernel_rfl) (by kernel_rfl) (by kernel_rfl) (by kernel_rfl) (by kernel_rfl) (by kernel_rfl), by kernel_rfl⟩
        nbr := mg_of KX T.g (by kernel_rfl)
        nbl := mg_of KX T.g (by kernel_rfl)
        nin := mg_of KX T.g (by kernel_rfl)
        bindi := ⟨196, fun u v S => by kernel_rfl⟩
        hrif := ⟨Mine.fnOK_of (by kernel_rfl) (by kernel_rfl) (by kernel_rfl) (by kernel_rfl) (by kernel_rfl) (by kernel_rfl) (by kernel_rfl) (by kernel_rfl), by kernel_rfl⟩
        nrif := mg_of KX T.g (by kernel_rfl)
        range := mg_none_of KX T.g (by kernel_rfl)
        range' := (T.builtins _ (by decide)).trans (by kernel_rfl)
        bindf := fun u v S => by kernel_rfl
        hdr := ⟨Mine.fnOK_of (by kernel_rfl) (by kernel_rfl) (by kernel_rfl) (by kernel_rfl) (by kernel_rfl) (by kernel_rfl) (by kernel_rfl) (by kernel_rfl), by kernel_rfl⟩
        ndr := mg_of KX T.g (by kernel_rfl)
        list := mg_none_of KX T.g (by kernel_rfl)
        list' := (T.builtins _ (by decide)).trans (by kernel_rfl)
        bindw := fun u v S => by kernel_rfl }
      P := {
        makes := by kernel_rfl
        init := by kernel_rfl
        initf := by kernel_rfl
        over := by kernel_rfl
        setat := by kernel_rfl
        has := by kernel_rfl
        get := fun x => by kernel_rfl
        taker := fun x m => by
          simp only [List.mem_cons, List.not_mem_nil, or_false] at m
          rcases m with rfl | rfl | rfl | rfl | rfl <;> kernel_rfl
        own := fun x m => by
          simp only [List.mem_cons, List.not_mem_nil, or_false] at m
          rcases m with rfl | rfl
          · exact ⟨none, by kernel_rfl, by kernel_rfl⟩
          · exact ⟨none, by kernel_rfl, by kernel_rfl⟩
        eqm := by kernel_rfl
        isf := by kernel_rfl
        reads := ⟨.type "type", by kernel_rfl, ⟨265, by kernel_rfl⟩, ⟨266, by kernel_rfl⟩⟩
        hini := ⟨Mine.fnOK_of (by kernel_rfl) (by kernel_rfl) (by kernel_rfl) (by kernel_rfl) (by kernel_rfl) (by kernel_rfl) (by kernel_rfl) (by kernel_rfl), by kernel_rfl⟩
        heqf := ⟨Mine.fnOK_of (by kernel_rfl) (by kernel_rfl) (by kernel_rfl) (by kernel_rfl) (by kernel_rfl) (by kernel_rfl) (by kernel_rfl) (by kernel_rfl), by kernel_rfl⟩
        ncls := mg_of KX T.g (by kernel_rfl)
        len := mg_none_of KX T.g (by kernel_rfl)
        len' := (T.builtins _ (by decide)).trans (by kernel_rfl)
        tuple := mg_none_of KX T.g (by kernel_rfl)
        tuple' := (T.builtins _ (by decide)).trans (by kernel_rfl)
        bindi := fun u v S => by kernel_rfl
        binde := fun u v S => by kernel_rfl
        hgi := ⟨Mine.fnOK_of (by kernel_rfl) (by kernel_rfl) (by kernel_rfl) (by kernel_rfl) (by kernel_rfl) (by kernel_rfl) (by kernel_rfl) (by kernel_rfl), by kernel_rfl⟩
        ngi := mg_of KX T.g (by kernel_rfl)
        cm := ⟨239, mg_of KX T.g (by kernel_rfl)⟩
        bindg := fun u S => by kernel_rfl
        hpf := ⟨Mine.fnOK_of (by kernel_rfl) (by kernel_rfl) (by kernel_rfl) (by kernel_rfl) (by kernel_rfl) (by kernel_rfl) (by kernel_rfl) (by kernel_rfl), by kernel_rfl⟩
        npf := mg_of KX T.g (by kernel_rfl)
        bindp := fun u v w => by kernel_rfl
        keepc := by kernel_rfl
        keepe := by kernel_rfl }
      hla := ⟨Mine.fnOK_of (by kernel_rfl) (by kernel_rfl) (by kernel_rfl) (by kernel_rfl) (by kernel_rfl) (by kernel_rfl) (by kernel_rfl) (by kernel_rfl), by kernel_rfl⟩
      bindl := fun u => by kernel_rfl
      enu := mg_none_of KX T.g (by kernel_rfl)
      enu' := (T.builtins _ (by decide)).trans (by kernel_rfl)
      sum := mg_none_of KX T.g (by kernel_rfl)
      sum' := (T.builtins _ (by decide)).trans (by kernel_rfl)
      max := mg_none_of KX T.g (by kernel_rfl)
      max' := (T.builtins _ (by decide)).trans (by kernel_rfl)
      min := mg_none_of KX T.g (by kernel_rfl)
      min' := (T.builtins _ (by decide)).trans (by kernel_rfl)
      srt := mg_none_of KX T.g (by kernel_rfl)
      srt' := (T.builtins _ (by decide)).trans (by kernel_rfl) }
