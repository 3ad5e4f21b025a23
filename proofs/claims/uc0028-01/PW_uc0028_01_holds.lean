import PyProof.Rows.All
import Wide.All
import OpenK.AllK
import Wide.FinOn
import Lean
import PySem.Challenge.RW_uc0028_01

set_option Elab.async false
set_option maxRecDepth 100000
set_option autoImplicit false
set_option linter.unusedVariables false
set_option linter.unusedSimpArgs false
set_option tactic.hygienic false
/-! U1 -/
namespace Mine

theorem all1 {α : Type _} {P : α → Prop} {a : α} (h : P a) : ∀ x ∈ [a], P x := fun zz q => List.mem_singleton.mp q ▸ h
theorem allC {α : Type _} {P : α → Prop} {a : α} {l : List α} (h : P a) (k : ∀ x ∈ l, P x) : ∀ x ∈ a :: l, P x := fun zz q => (List.mem_cons.mp q).elim (fun e => e ▸ h) (k _)
theorem all2 {α : Type _} {P : α → Prop} {a b : α} (h : P a) (k : P b) : ∀ x ∈ [a, b], P x := allC h (all1 k)
theorem all3 {α : Type _} {P : α → Prop} {a b c : α} (h : P a) (k : P b) (j : P c) : ∀ x ∈ [a, b, c], P x := allC h (all2 k j)
theorem allN {α : Type _} {P : α → Prop} : ∀ x ∈ ([] : List α), P x := fun zz q => nomatch q
theorem nm1 {α : Type _} {a x : α} (h : a ≠ x) : a ∉ [x] := fun q => h (List.mem_singleton.mp q)
theorem nm2 {α : Type _} {a x y : α} (h : a ≠ x) (k : a ≠ y) : a ∉ [x, y] := fun q => (List.mem_cons.mp q).elim h (nm1 k)
theorem nm3 {α : Type _} {a x y z : α} (h : a ≠ x) (k : a ≠ y) (j : a ≠ z) : a ∉ [x, y, z] := fun q => (List.mem_cons.mp q).elim h (nm2 k j)
/-- the goal under a name of its own -/
theorem encl {T : Prop} (h : ∀ G : Prop, (T → G) → G) : T := h T id
theorem nn (n : Nat) : ¬ ((n : Int) < 0) := Int.not_lt.mpr (Int.natCast_nonneg n)
theorem succ_sub (n : Nat) : ((n + 1 : Nat) : Int) - 1 = n := by rw [Int.natCast_add]; exact Int.add_sub_cancel _ _
theorem take_min {α : Type _} (l : List α) (k m : Nat) : (l.drop k).take (min m l.length - min k l.length) = (l.drop k).take (m - k) := by
  by_cases h : k ≤ l.length
  · rw [Nat.min_eq_left h]
    by_cases h2 : m ≤ l.length
    · rw [Nat.min_eq_left h2]
    · rw [Nat.min_eq_right (Nat.le_of_not_le h2), List.take_of_length_le (Nat.le_of_eq List.length_drop), List.take_of_length_le (by rw [List.length_drop]; exact Nat.sub_le_sub_right (Nat.le_of_not_le h2) _)]
  · rw [List.drop_of_length_le (Nat.le_of_not_le h), List.take_nil, List.take_nil]
end Mine
/-! M1 -/
namespace Mine
open PySem PySem.W PySem.Spec PySem.Calls PyProof.Rows

/-! ## Pure data and how a heap bears it -/
inductive D where
  | none
  | bool (b : Bool)
  | int (i : Int)
  | str (x : Str)
  | bytes (b : Array UInt8)
  | tup (ds : List D)
  | lst (ds : List D)
  | ptr (v : Value)

noncomputable def IsSeq (T : String) (vs : List Value) (o : Obj) : Prop := o.cls = .type T ∧ o.dict = Option.none ∧ (∃ n, o.data = .seq vs.toArray n) ∧ o.slots = #[]
theorem IsSeq.eq {T : String} {vs : List Value} {o : Obj} (q : IsSeq T vs o) : ∃ n, o = { cls := .type T, data := .seq vs.toArray n } := by
  obtain ⟨c, d, dt, sl⟩ := o
  obtain ⟨h1, h2, ⟨n, h3⟩, h4⟩ := q
  cases h1; cases h2; cases h3; cases h4
  exact ⟨n, rfl⟩

mutual
inductive Rp (hid : Addr → Prop) (h : Heap) : Value → D → Prop
  | none : Rp hid h Value.none D.none
  | bool (b : Bool) : Rp hid h (Value.bool b) (D.bool b)
  | int (i : Int) (t : Tok) : Rp hid h (Value.int i t) (D.int i)
  | str (x : Str) (t : Tok) : Rp hid h (Value.str x t) (D.str x)
  | bytes (b : Array UInt8) (t : Tok) : Rp hid h (Value.bytes b t) (D.bytes b)
  | ptr (v : Value) : Rp hid h v (D.ptr v)
  | tup {a : Addr} {o : Obj} {vs : List Value} {ds : List D} : ¬ hid a → h.get? a = some o → IsSeq "tuple" vs o → Rps hid h vs ds → Rp hid h (Value.ref a) (D.tup ds)
  | lst {a : Addr} {o : Obj} {vs : List Value} {ds : List D} : ¬ hid a → h.get? a = some o → IsSeq "list" vs o → Rps hid h vs ds → Rp hid h (Value.ref a) (D.lst ds)
inductive Rps (hid : Addr → Prop) (h : Heap) : List Value → List D → Prop
  | nil : Rps hid h [] []
  | cons {v : Value} {vs : List Value} {d : D} {ds : List D} : Rp hid h v d → Rps hid h vs ds → Rps hid h (v :: vs) (d :: ds)
end

noncomputable def SqC (o : Obj) : Prop := o.cls = .type "tuple" ∨ o.cls = .type "list"
noncomputable def HdObj (o : Obj) : Prop := ∃ X vs, o.cls = .type X ∧ X ≠ "tuple" ∧ X ≠ "list" ∧ o.data = .fields vs ∧ vs[2]? = some .none ∧ ∀ q t, vs[1]? ≠ some (.str q t)
section
variable {hid hid' : Addr → Prop} {h h' : Heap}
theorem SqC.tup {vs : List Value} {o : Obj} (q : IsSeq "tuple" vs o) : SqC o := .inl q.1
theorem SqC.lst {vs : List Value} {o : Obj} (q : IsSeq "list" vs o) : SqC o := .inr q.1
theorem Rps.mono (hs : ∀ a o, ¬ hid a → h.get? a = some o → SqC o → ¬ hid' a ∧ h'.get? a = some o) {vs : List Value} {ds : List D} (x : Rps hid h vs ds) : Rps hid' h' vs ds :=
  Rps.rec (motive_1 := fun v d zz => Rp hid' h' v d) (motive_2 := fun vs ds zz => Rps hid' h' vs ds) .none .bool .int .str .bytes .ptr
    (fun n e q zz r => .tup (hs _ _ n e (SqC.tup q)).1 (hs _ _ n e (SqC.tup q)).2 q r) (fun n e q zz r => .lst (hs _ _ n e (SqC.lst q)).1 (hs _ _ n e (SqC.lst q)).2 q r) .nil (fun zz zz a r => .cons a r) x
noncomputable def RpI (hid : Addr → Prop) (h : Heap) (v : Value) : D → Prop
  | .none => v = .none
  | .bool b => v = .bool b
  | .int i => ∃ t, v = .int i t
  | .str i => ∃ t, v = .str i t
  | .bytes i => ∃ t, v = .bytes i t
  | .ptr u => v = u
  | .tup ds => ∃ a o vs, v = .ref a ∧ ¬ hid a ∧ h.get? a = some o ∧ IsSeq "tuple" vs o ∧ Rps hid h vs ds
  | .lst ds => ∃ a o vs, v = .ref a ∧ ¬ hid a ∧ h.get? a = some o ∧ IsSeq "list" vs o ∧ Rps hid h vs ds
theorem Rp.inv {v : Value} {d : D} (x : Rp hid h v d) : RpI hid h v d :=
  Rp.casesOn x rfl (fun zz => rfl) (fun zz t => ⟨t, rfl⟩) (fun zz t => ⟨t, rfl⟩) (fun zz t => ⟨t, rfl⟩) (fun zz => rfl) (fun n e q r => ⟨_, _, _, rfl, n, e, q, r⟩) (fun n e q r => ⟨_, _, _, rfl, n, e, q, r⟩)
noncomputable def RpsI (hid : Addr → Prop) (h : Heap) (vs : List Value) : List D → Prop
  | [] => vs = []
  | d :: ds => ∃ v ws, vs = v :: ws ∧ Rp hid h v d ∧ Rps hid h ws ds
theorem Rps.inv {vs : List Value} {ds : List D} (x : Rps hid h vs ds) : RpsI hid h vs ds :=
  Rps.casesOn x rfl (fun a r => ⟨_, _, rfl, a, r⟩)
theorem Rps.nil_inv {vs : List Value} (x : Rps hid h vs []) : vs = [] := x.inv
theorem Rps.cons_inv {vs : List Value} {d : D} {ds : List D} (x : Rps hid h vs (d :: ds)) : ∃ v ws, vs = v :: ws ∧ Rp hid h v d ∧ Rps hid h ws ds := x.inv
theorem Rp.mono (hs : ∀ a o, ¬ hid a → h.get? a = some o → SqC o → ¬ hid' a ∧ h'.get? a = some o) {v : Value} {d : D} (x : Rp hid h v d) : Rp hid' h' v d := by
  obtain ⟨v, ws, e, a, _⟩ := (Rps.mono hs (.cons x .nil)).cons_inv
  exact (List.cons.inj e).1 ▸ a
theorem Rps.length {vs : List Value} {ds : List D} (x : Rps hid h vs ds) : vs.length = ds.length := by
  induction ds generalizing vs with
  | nil => rw [x.nil_inv]; rfl
  | cons d ds ih => obtain ⟨v, ws, rfl, a, r⟩ := x.cons_inv; exact congrArg (· + 1) (ih r)
theorem Rps.append {vs ws : List Value} {ds es : List D} (x : Rps hid h vs ds) (y : Rps hid h ws es) : Rps hid h (vs ++ ws) (ds ++ es) := by
  induction ds generalizing vs with
  | nil => rw [x.nil_inv]; exact y
  | cons d ds ih => obtain ⟨v, vs, rfl, a, r⟩ := x.cons_inv; exact .cons a (ih r)
theorem Rps.get {vs : List Value} {ds : List D} {k : Nat} {d : D} (x : Rps hid h vs ds) (e : ds[k]? = some d) : ∃ v, vs[k]? = some v ∧ Rp hid h v d := by
  induction ds generalizing vs k with
  | nil => cases e
  | cons c ds ih =>
    obtain ⟨v, vs, rfl, a, r⟩ := x.cons_inv
    cases k with
    | zero => exact ⟨v, rfl, Option.some.inj e ▸ a⟩
    | succ k => exact ih (k := k) r e
theorem Rps.get' {vs : List Value} {ds : List D} {k : Nat} {v : Value} (x : Rps hid h vs ds) (e : vs[k]? = some v) : ∃ d, ds[k]? = some d ∧ Rp hid h v d := by
  induction ds generalizing vs k with
  | nil => rw [x.nil_inv] at e; cases e
  | cons c ds ih =>
    obtain ⟨w, vs, rfl, a, r⟩ := x.cons_inv
    cases k with
    | zero => exact ⟨c, rfl, Option.some.inj e ▸ a⟩
    | succ k => exact ih (k := k) r e
theorem Rps.take {vs : List Value} {ds : List D} (x : Rps hid h vs ds) (k : Nat) : Rps hid h (vs.take k) (ds.take k) := by
  induction ds generalizing vs k with
  | nil => rw [x.nil_inv, List.take_nil, List.take_nil]; exact .nil
  | cons d ds ih => obtain ⟨v, vs, rfl, a, r⟩ := x.cons_inv; cases k with | zero => exact .nil | succ k => exact .cons a (ih r k)
theorem Rps.drop {vs : List Value} {ds : List D} (x : Rps hid h vs ds) (k : Nat) : Rps hid h (vs.drop k) (ds.drop k) := by
  induction ds generalizing vs k with
  | nil => rw [x.nil_inv, List.drop_nil, List.drop_nil]; exact .nil
  | cons d ds ih => obtain ⟨v, vs, rfl, a, r⟩ := x.cons_inv; cases k with | zero => exact .cons a r | succ k => exact ih r k
theorem Rps.reverse {vs : List Value} {ds : List D} (x : Rps hid h vs ds) : Rps hid h vs.reverse ds.reverse := by
  induction ds generalizing vs with
  | nil => rw [x.nil_inv]; exact .nil
  | cons d ds ih => obtain ⟨v, vs, rfl, a, r⟩ := x.cons_inv; rw [List.reverse_cons, List.reverse_cons]; exact (ih r).append (.cons a .nil)
end

/-! ## The context: what stands through the whole call -/
structure Tb where
  c : Addr
  P : Addr
  line : Nat
  col : Nat
  qual : Str

structure Cx where
  prog : Program
  w : World
  mg : Str → Option Value
  mb : Str → Option Value
  gh : Heap
  os : OsState
  ta : Tb
  tb : Tb
  hd : Option (Addr × Obj)

noncomputable def TbOk (t : Tb) (h : Heap) : Prop := ∃ ps, h.get? t.P = some (tabObj ps) ∧ TriplesOk ps.toList ∧
  (ps = #[] ∨ ∃ c', (∀ pos : Pos, pos.line = t.line → pos.col = t.col → codeAmong pos ps.toList = some (.ref c')) ∧ h.CodeRec (.ref c') t.qual)

/-- what the base says, once -/
structure Cx.Ok (C : Cx) : Prop where
  g : C.gh.Ns mainGlobals C.mg
  b : C.gh.Ns builtinsNs C.mb
  nolimit : C.gh.NoLimit
  builtins : ∀ x : Str, x ≠ "__name__" → C.mb x = bootBuiltins x
  bmain : ∃ bm ob, C.mg "__builtins__" = some (.ref bm) ∧ bm ≠ builtinsNs ∧ C.gh.get? bm = some ob ∧ ob.cls = .type "module" ∧ ob.dict = some builtinsNs ∧ ob.data = .plain
  ca : CodeHd C.gh C.ta.c C.ta.P
  cb : CodeHd C.gh C.tb.c C.tb.P
  na : C.gh.get? C.ta.P = Option.none
  nb : C.gh.get? C.tb.P = Option.none
  apart : C.ta.P ≠ C.tb.P
  nh : ∀ p, C.hd = some p → C.gh.get? p.1 = none

noncomputable def Cx.off (C : Cx) (a : Addr) : Prop := a ≠ C.ta.P ∧ a ≠ C.tb.P ∧ ∀ p, C.hd = some p → a ≠ p.1

/-- a good state -/
structure Gd (C : Cx) (s : Shared) : Prop where
  keep : ∀ b o, C.gh.get? b = some o → s.heap.get? b = some o
  ta : TbOk C.ta s.heap
  tb : TbOk C.tb s.heap
  os : s.os = C.os
  bare : AllBare s.gens
  hx : ∀ p, C.hd = some p → s.heap.get? p.1 = some p.2 ∧ HdObj p.2

/-- all that stood stands -/
structure Ex (C : Cx) (s s' : Shared) : Prop where
  gd : Gd C s'
  keep : ∀ b o, C.off b → s.heap.get? b = some o → s'.heap.get? b = some o
  gens : ∀ (i : Nat) (x : GenState), s.gens[i]? = some x → s'.gens[i]? = some x

theorem Ex.refl {C : Cx} {s : Shared} (g : Gd C s) : Ex C s s := ⟨g, fun zz zz zz e => e, fun zz zz e => e⟩
theorem Ex.trans {C : Cx} {s s' s'' : Shared} (x : Ex C s s') (y : Ex C s' s'') : Ex C s s'' :=
  ⟨y.gd, fun b o n e => y.keep b o n (x.keep b o n e), fun i z e => y.gens i z (x.gens i z e)⟩

theorem TbOk.keeps {t : Tb} {h h' : Heap} (x : TbOk t h) (k : ∀ b o, h.get? b = some o → h'.get? b = some o) : TbOk t h' := by
  obtain ⟨ps, e, ht, r⟩ := x
  exact ⟨ps, k _ _ e, ht, r.imp id fun q => q.imp fun zz q => ⟨q.1, q.2.keeps k⟩⟩

/-- only new objects: the usual step -/
theorem Ex.of_keeps {C : Cx} {s : Shared} (g : Gd C s) {h' : Heap} {tk : Nat} (k : ∀ b o, s.heap.get? b = some o → h'.get? b = some o) :
    Ex C s { s with heap := h', toks := tk } :=
  ⟨⟨fun b o e => k b o (g.keep b o e), g.ta.keeps k, g.tb.keeps k, g.os, g.bare, fun p hp => ⟨k _ _ (g.hx p hp).1, (g.hx p hp).2⟩⟩, fun b o zz e => k b o e, fun zz zz e => e⟩
theorem Ex.toks {C : Cx} {s : Shared} (g : Gd C s) {tk : Nat} : Ex C s { s with toks := tk } :=
  Ex.of_keeps (h' := s.heap) g (fun zz zz e => e)
theorem Ex.push {C : Cx} {s : Shared} (g : Gd C s) {tk : Nat} (o : Obj) : Ex C s { s with heap := s.heap.push o, toks := tk } :=
  Ex.of_keeps g (fun zz zz e => Heap.get?_push_of_some o e)

theorem Gd.offq {C : Cx} {s : Shared} {a : Addr} {o : Obj} (g : Gd C s) (e : s.heap.get? a = some o) (hc : SqC o) : C.off a :=
  ⟨fun q => by subst q; obtain ⟨ps, e2, _⟩ := g.ta; rw [e] at e2; cases e2; exact hc.elim nofun nofun, fun q => by subst q; obtain ⟨ps, e2, _⟩ := g.tb; rw [e] at e2; cases e2; exact hc.elim nofun nofun,
   fun p hp q => by
    subst q
    obtain ⟨e2, X, vs, h1, h2, h3, _⟩ := g.hx p hp
    rw [e] at e2; cases e2
    rcases hc with q | q <;> rw [h1] at q <;> cases q
    · exact h2 rfl
    · exact h3 rfl⟩
theorem Rp.ex {C : Cx} {hid : Addr → Prop} {s s' : Shared} {v : Value} {d : D} (g : Gd C s) (x : Ex C s s') (r : Rp hid s.heap v d) : Rp hid s'.heap v d :=
  r.mono fun a o n e hc => ⟨n, x.keep a o (g.offq e hc) e⟩
theorem Rps.ex {C : Cx} {hid : Addr → Prop} {s s' : Shared} {vs : List Value} {ds : List D} (g : Gd C s) (x : Ex C s s') (r : Rps hid s.heap vs ds) : Rps hid s'.heap vs ds :=
  r.mono fun a o n e hc => ⟨n, x.keep a o (g.offq e hc) e⟩

/-! ## Room -/
noncomputable def Rm (C : Cx) (A : Around) (k : Nat) : Prop := A.handled = C.hd.map (fun p => Value.ref p.1) ∧ A.depth + k < 1000 ∧ A.units + 20 * k < 9800
theorem Rm.h0 {C : Cx} {A : Around} {k : Nat} (x : Rm C A k) (h : C.hd = Option.none) : A.handled = Option.none := by rw [x.1, h]; rfl
theorem Rm.mono {C : Cx} {A : Around} {k j : Nat} (x : Rm C A k) (h : j ≤ k) : Rm C A j := ⟨x.1, by have := x.2.1; lia, by have := x.2.2; lia⟩
theorem Rm.deeper {C : Cx} {A : Around} {k : Nat} {env : Env} (x : Rm C A (k + 1)) : Rm C (A.deeper env) k :=
  ⟨x.1, by show A.depth + 1 + k < 1000; have := x.2.1; lia, by show A.units + 3 + 20 * k < 9800; have := x.2.2; lia⟩
theorem Rm.room {C : Cx} {A : Around} {k : Nat} (x : Rm C A k) : A.depth < recursionLimit := by have := x.2.1; show A.depth < 1000; lia
theorem Rm.units {C : Cx} {A : Around} {k : Nat} (x : Rm C A k) : A.units < cLine := by have := x.2.2; show A.units < 9900; lia

noncomputable def Bd (hid : Addr → Prop) (s : Shared) : Prop := ∀ a, hid a → ∃ o, s.heap.get? a = some o
theorem off_or {C : Cx} {s : Shared} (g : Gd C s) (a : Addr) : C.off a ∨ ∃ o, s.heap.get? a = some o := by
  by_cases h1 : a = C.ta.P
  · subst h1; obtain ⟨ps, e2, _⟩ := g.ta; exact .inr ⟨_, e2⟩
  · by_cases h2 : a = C.tb.P
    · subst h2; obtain ⟨ps, e2, _⟩ := g.tb; exact .inr ⟨_, e2⟩
    · by_cases h3 : ∃ p, C.hd = some p ∧ a = p.1
      · obtain ⟨p, hp, rfl⟩ := h3
        exact .inr ⟨_, (g.hx p hp).1⟩
      · exact .inl ⟨h1, h2, fun p hp q => h3 ⟨p, hp, q⟩⟩
theorem Bd.ex {C : Cx} {hid : Addr → Prop} {s s' : Shared} (b : Bd hid s) (x : Ex C s s') : Bd hid s' := fun a q => by
  obtain ⟨o, e⟩ := b a q
  rcases off_or x.gd a with h | h
  · exact ⟨o, x.keep a o h e⟩
  · exact h
theorem no_at {h : Heap} {a b : Addr} {o : Obj} {P : Prop} (h1 : h.get? b = some o) (h2 : h.get? a = none) (h3 : b = a) : P := by subst h3; rw [h2] at h1; cases h1
theorem get_size {h : Heap} : h.get? h.objs.size = none := by
  cases q : h.get? h.objs.size with
  | none => rfl
  | some o => exact absurd (Heap.lt_size q) (Nat.lt_irrefl _)

/-! ## Value steps: what an operation makes of data -/
/-- a step of the machine that makes d of the values that bear ds -/
noncomputable def St (C : Cx) (k : Nat) (f : List Value → Sem Value) (ds : List D) (d : D) : Prop :=
  ∀ (A : Around) (hid : Addr → Prop) (s : Shared) (vs : List Value) (Q : Value → Shared → Prop) (E : Value → Shared → Prop),
    Rm C A k → Gd C s → Bd hid s → Rps hid s.heap vs ds → (∀ v s', Ex C s s' → Rp hid s'.heap v d → Q v s') → wpAny (model C.prog C.w) A (f vs) Q E s

noncomputable def Call (C : Cx) (k : Nat) (fv : Value) (ds : List D) (d : D) : Prop := St C k (fun vs => call fv vs) ds d
noncomputable def Bin (C : Cx) (op : Operator) (a b d : D) : Prop := St C 1 (fun vs => match vs with | [x, y] => binaryOp op x y | _ => pure .none) [a, b] d
noncomputable def Cmp (C : Cx) (op : CmpOp) (a b : D) (r : Bool) : Prop := St C 1 (fun vs => match vs with | [x, y] => compareOp op x y | _ => pure .none) [a, b] (.bool r)
noncomputable def Iop (C : Cx) (op : Operator) (a b d : D) : Prop := St C 1 (fun vs => match vs with | [x, y] => inplaceOp op x y | _ => pure .none) [a, b] d

theorem Rps.one {hid : Addr → Prop} {h : Heap} {vs : List Value} {d : D} (x : Rps hid h vs [d]) : ∃ v, vs = [v] ∧ Rp hid h v d := by
  obtain ⟨v, ws, e, a, r⟩ := x.cons_inv; exact ⟨v, by rw [e, r.nil_inv], a⟩
theorem Rps.two {hid : Addr → Prop} {h : Heap} {vs : List Value} {d e : D} (x : Rps hid h vs [d, e]) : ∃ v w, vs = [v, w] ∧ Rp hid h v d ∧ Rp hid h w e := by
  obtain ⟨v, ws, e, a, r⟩ := x.cons_inv; obtain ⟨w, e2, b⟩ := r.one; exact ⟨v, w, by rw [e, e2], a, b⟩
theorem Rp.int_inv {hid : Addr → Prop} {h : Heap} {v : Value} {i : Int} (x : Rp hid h v (.int i)) : ∃ t, v = .int i t := x.inv
theorem Rp.str_inv {hid : Addr → Prop} {h : Heap} {v : Value} {i : Str} (x : Rp hid h v (.str i)) : ∃ t, v = .str i t := x.inv
theorem Rp.bytes_inv {hid : Addr → Prop} {h : Heap} {v : Value} {i : Array UInt8} (x : Rp hid h v (.bytes i)) : ∃ t, v = .bytes i t := x.inv
theorem Rp.bool_inv {hid : Addr → Prop} {h : Heap} {v : Value} {i : Bool} (x : Rp hid h v (.bool i)) : v = .bool i := x.inv
theorem Rp.ptr_inv {hid : Addr → Prop} {h : Heap} {v u : Value} (x : Rp hid h v (.ptr u)) : v = u := x.inv
theorem Rp.none_inv {hid : Addr → Prop} {h : Heap} {v : Value} (x : Rp hid h v .none) : v = .none := x.inv
theorem Rp.tup_inv {hid : Addr → Prop} {h : Heap} {v : Value} {ds : List D} (x : Rp hid h v (.tup ds)) : ∃ a o vs, v = .ref a ∧ ¬ hid a ∧ h.get? a = some o ∧ IsSeq "tuple" vs o ∧ Rps hid h vs ds := x.inv
theorem Rp.lst_inv {hid : Addr → Prop} {h : Heap} {v : Value} {ds : List D} (x : Rp hid h v (.lst ds)) : ∃ a o vs, v = .ref a ∧ ¬ hid a ∧ h.get? a = some o ∧ IsSeq "list" vs o ∧ Rps hid h vs ds := x.inv
theorem Rp.lst_at {hid : Addr → Prop} {h : Heap} {a : Addr} {ds : List D} (x : Rp hid h (.ref a) (.lst ds)) : ∃ o vs, ¬ hid a ∧ h.get? a = some o ∧ IsSeq "list" vs o ∧ Rps hid h vs ds := by
  obtain ⟨b, o, vs, e, r⟩ := x.lst_inv; exact ⟨o, vs, Value.ref.inj e ▸ r⟩

theorem bin_add {C : Cx} {a b : Int} : Bin C .Add (.int a) (.int b) (.int (a + b)) := by
  intro A hid s vs Q E rm g bd r q
  obtain ⟨v, w, rfl, rv, rw'⟩ := r.two
  obtain ⟨t, rfl⟩ := rv.int_inv
  obtain ⟨u, rfl⟩ := rw'.int_inv
  exact wpAny_add_int (q _ _ (Ex.toks g) (.int _ _))
end Mine
/-! M2 -/
namespace Mine
open PySem PySem.W PySem.Spec PySem.Calls PyProof.Rows

theorem Gd.off {C : Cx} {s : Shared} {a : Addr} {o : Obj} (g : Gd C s) (e : s.heap.get? a = some o) (hd : ∀ vs, o.data ≠ .fields vs) : C.off a :=
  ⟨fun q => by subst q; obtain ⟨ps, e2, _⟩ := g.ta; rw [e] at e2; cases e2; exact hd _ rfl, fun q => by subst q; obtain ⟨ps, e2, _⟩ := g.tb; rw [e] at e2; cases e2; exact hd _ rfl,
   fun p hp q => by subst q; obtain ⟨e2, X, vs, _, _, _, h4, _⟩ := g.hx p hp; rw [e] at e2; cases e2; exact hd _ h4⟩

/-- an object that is no code record -/
noncomputable def NoCode (o : Obj) : Prop := ∀ vs, o.data = .fields vs → ∀ q t, vs[1]? ≠ some (.str q t)

theorem TbOk.but {t : Tb} {h h' : Heap} {a : Addr} {oa : Obj} (x : TbOk t h) (hn : a ≠ t.P) (e : h.get? a = some oa) (hc : NoCode oa) (hs : ∀ b o, b ≠ a → h.get? b = some o → h'.get? b = some o) : TbOk t h' := by
  obtain ⟨ps, e1, ht, r⟩ := x
  refine ⟨ps, hs _ _ (fun q => hn q.symm) e1, ht, r.imp id fun q => q.imp fun c' q => ⟨q.1, ?_⟩⟩
  obtain ⟨c, o, vs, t', e2, e3, e4, e5⟩ := q.2
  refine ⟨c, o, vs, t', e2, hs _ _ (fun q => ?_) e3, e4, e5⟩
  rw [q, e] at e3
  exact hc _ (Option.some.inj e3 ▸ e4) _ _ e5

/-- one object of the call's own changes -/
theorem Gd.same {C : Cx} {s : Shared} {h' : Heap} {tk : Nat} {a : Addr} {oa : Obj} (g : Gd C s) (hn : C.off a) (e : s.heap.get? a = some oa) (hc : NoCode oa) (hg : C.gh.get? a = none)
    (hs : ∀ b o, b ≠ a → s.heap.get? b = some o → h'.get? b = some o) : Gd C { s with heap := h', toks := tk } :=
  ⟨fun b o q => hs b o (fun z => by subst z; rw [hg] at q; cases q) (g.keep b o q), g.ta.but hn.1 e hc hs, g.tb.but hn.2.1 e hc hs, g.os, g.bare, fun p hp => ⟨hs _ _ (fun q => hn.2.2 p hp q.symm) (g.hx p hp).1, (g.hx p hp).2⟩⟩

/-! ## Frames -/
inductive Sl where
  | val (d : D)
  | own (ds : List D)
noncomputable abbrev Store := List (Str × Sl)

structure Fx where
  env : Env
  A : Around
  k : Nat
  cst : Bool
  sc : Heap
  H : Addr → Prop
  pins : List (Addr × Obj)
  seen : List (Value × D)
  gens : Array GenState

structure Wt where
  m : Str → Option Value
  cm : Str → Option Value
  hid : Addr → Prop

noncomputable def Wt.get (W : Wt) (env : Env) (x : Str) : Option Value := if env.kindOf x = some .local then W.m x else W.cm x

/-- a list that this frame alone holds -/
inductive Own (F : Fx) (W : Wt) (h : Heap) (v : Value) (ds : List D) : Prop
  | mk (a : Addr) (vs : Array Value) (n : Nat) (q1 : v = .ref a) (q2 : h.get? a = some ({ cls := .type "list", data := .seq vs n } : Obj)) (q3 : Rps W.hid h vs.toList ds) (q4 : W.hid a) (q5 : F.sc.get? a = none) (q6 : a ≠ F.env.locals)
      (q7 : ∀ x c, F.env.cells.lookup x = some c → a ≠ c) (q8 : ∀ p ∈ F.pins, a ≠ p.1)

structure Frm (C : Cx) (F : Fx) (W : Wt) (ρ : Store) (s : Shared) : Prop where
  gd : Gd C s
  ok : C.Ok
  rm : Rm C F.A F.k
  kind : F.env.scope.kind = .function
  glob : F.env.globals = mainGlobals
  blt : F.env.builtins = builtinsNs
  ns : s.heap.Ns F.env.locals W.m
  cells : ∀ x c, F.env.cells.lookup x = some c → s.heap.IsCell c (W.cm x)
  cfree : F.cst = true → ∀ x c, F.env.cells.lookup x = some c → F.env.kindOf x = some .cell → F.sc.get? c = none ∧ c ≠ F.env.locals ∧ W.hid c ∧ ∀ p ∈ F.pins, c ≠ p.1
  cinj : ∀ x y c, F.env.cells.lookup x = some c → F.env.cells.lookup y = some c → x = y
  vals : ∀ x d, ρ.lookup x = some (.val d) → ∃ v, W.get F.env x = some v ∧ Rp W.hid s.heap v d
  owns : ∀ x ds, ρ.lookup x = some (.own ds) → ∃ v, W.get F.env x = some v ∧ Own F W s.heap v ds
  apart : ∀ x y ds es v, ρ.lookup x = some (.own ds) → ρ.lookup y = some (.own es) → W.get F.env x = some v → W.get F.env y = some v → x = y
  sc : ∀ b o, C.off b → F.sc.get? b = some o → s.heap.get? b = some o
  scg : ∀ b o, C.gh.get? b = some o → F.sc.get? b = some o
  lloc : F.sc.get? F.env.locals = none
  pins : ∀ p ∈ F.pins, s.heap.get? p.1 = some p.2 ∧ C.off p.1 ∧ W.hid p.1 ∧ p.1 ≠ F.env.locals ∧ F.sc.get? p.1 = none ∧ NoCode p.2
  pcell : ∀ p ∈ F.pins, ∀ x c, F.env.cells.lookup x = some c → c ≠ p.1
  pinj : (F.pins.map (·.1)).Nodup
  seen : ∀ p ∈ F.seen, Rp W.hid s.heap p.1 p.2
  gens : ∀ (i : Nat) (x : GenState), F.gens[i]? = some x → s.gens[i]? = some x
  hL : W.hid F.env.locals
  hH : ∀ a, F.H a → W.hid a
  Hb : ∀ a, F.H a → ∃ o, F.sc.get? a = some o
  bd : Bd W.hid s

/-- what is not hidden stays, and is not hidden then -/
noncomputable def Kp (hid : Addr → Prop) (h : Heap) (hid' : Addr → Prop) (h' : Heap) : Prop := ∀ a o, ¬ hid a → h.get? a = some o → SqC o → ¬ hid' a ∧ h'.get? a = some o
/-- an object that is no record stays -/
noncomputable def Kd (h h' : Heap) (a : Addr) : Prop := ∀ o, h.get? a = some o → (∀ vs, o.data ≠ .fields vs) → h'.get? a = some o
theorem ns_keep {h h' : Heap} {L : Addr} {m : Str → Option Value} (n : h.Ns L m) (k : Kd h h' L) : h'.Ns L m := by
  obtain ⟨o, es, ep, e, hd, r⟩ := n
  exact ⟨o, es, ep, k o e (fun zz q => by rw [hd] at q; cases q), hd, r⟩
theorem ns_at {h : Heap} {L : Addr} {m : Str → Option Value} (n : h.Ns L m) : ∃ o, h.get? L = some o := by
  obtain ⟨o, _, _, e, _⟩ := n
  exact ⟨o, e⟩
theorem ns_obj {h : Heap} {L : Addr} {m : Str → Option Value} (n : h.Ns L m) : ∃ o, h.get? L = some o ∧ ∀ vs, o.data ≠ .fields vs := by
  obtain ⟨o, _, _, e, hd, _⟩ := n
  exact ⟨o, e, fun vs q => by rw [hd] at q; cases q⟩
theorem cell_keep {h h' : Heap} {c : Addr} {v : Option Value} (n : h.IsCell c v) (k : Kd h h' c) : h'.IsCell c v := by
  obtain ⟨o, e, hd⟩ := n
  exact ⟨o, k o e (fun zz q => by rw [hd] at q; cases q), hd⟩
theorem Own.keep {F F' : Fx} {W W' : Wt} {h h' : Heap} {v : Value} {ds : List D} (o : Own F W h v ds) (kp : Kp W.hid h W'.hid h') (k : ∀ a, v = .ref a → (∃ o, h.get? a = some o ∧ ∀ vs, o.data ≠ .fields vs) → W.hid a → F.sc.get? a = none → (∀ p ∈ F.pins, a ≠ p.1) → Kd h h' a ∧ W'.hid a ∧ F'.sc.get? a = none ∧ ∀ p ∈ F'.pins, a ≠ p.1)
    (h1 : F'.env = F.env) : Own F' W' h' v ds := by
  obtain ⟨a, vs, n, q1, q2, q3, q4, q5, q6, q7, q8⟩ := o
  have nf : ∀ us : Array Value, (Obj.data { cls := .type "list", data := .seq vs n }) ≠ .fields us := fun us q => by cases q
  obtain ⟨k1, k2, k3, k4⟩ := k a q1 ⟨_, q2, nf⟩ q4 q5 q8
  exact ⟨a, vs, n, q1, k1 _ q2 nf, q3.mono kp, k2, k3, h1 ▸ q6, h1 ▸ q7, k4⟩

theorem Own.ex' {C : Cx} {F : Fx} {W : Wt} {s s' : Shared} {v : Value} {ds : List D} (g : Gd C s) (x : Ex C s s') (o : Own F W s.heap v ds) : Own F W s'.heap v ds := by
  obtain ⟨a, vs, n, e1, e2, e3, e4, e5, e6, e7, e8⟩ := o
  exact ⟨a, vs, n, e1, x.keep _ _ (g.off e2 (fun zz q => by cases q)) e2, e3.ex g x, e4, e5, e6, e7, e8⟩
theorem Own.to {F F' : Fx} {W : Wt} {h : Heap} {v : Value} {ds : List D} (o : Own F W h v ds) (h1 : F'.env = F.env) (h2 : F'.sc = F.sc) (h3 : F'.pins = F.pins) : Own F' W h v ds := by
  obtain ⟨a, vs, n, q1, q2, q3, q4, q5, q6, q7, q8⟩ := o
  exact ⟨a, vs, n, q1, q2, q3, q4, h2 ▸ q5, h1 ▸ q6, h1 ▸ q7, h3 ▸ q8⟩

theorem Frm.ex {C : Cx} {F : Fx} {W : Wt} {ρ : Store} {s s' : Shared} (f : Frm C F W ρ s) (x : Ex C s s') : Frm C F W ρ s' where
  gd := x.gd
  ok := f.ok
  rm := f.rm
  kind := f.kind
  glob := f.glob
  blt := f.blt
  ns := ns_keep f.ns fun o e n => x.keep _ _ (f.gd.off e n) e
  cells := fun y c e => cell_keep (f.cells y c e) fun o e n => x.keep _ _ (f.gd.off e n) e
  cfree := f.cfree
  cinj := f.cinj
  vals := fun y d e => (f.vals y d e).imp fun zz q => ⟨q.1, q.2.ex f.gd x⟩
  owns := fun y d e => (f.owns y d e).imp fun zz q => ⟨q.1, q.2.ex' f.gd x⟩
  apart := f.apart
  sc := fun b o n e => x.keep b o n (f.sc b o n e)
  scg := f.scg
  lloc := f.lloc
  pins := fun p hp => have q := f.pins p hp; ⟨x.keep _ _ q.2.1 q.1, q.2⟩
  pcell := f.pcell
  pinj := f.pinj
  seen := fun p hp => (f.seen p hp).ex f.gd x
  gens := fun i y e => x.gens i y (f.gens i y e)
  hL := f.hL
  hH := f.hH
  Hb := f.Hb
  bd := f.bd.ex x

noncomputable def Sub : Store → Store → Prop
  | [], _ => True
  | p :: r, ρ => ρ.lookup p.1 = some p.2 ∧ Sub r ρ

theorem lookup_mem {α : Type} {x : Str} {v : α} : ∀ {l : List (Str × α)}, l.lookup x = some v → (x, v) ∈ l
  | (k, v') :: r, h => by
    rw [List.lookup_cons] at h
    cases hb : x == k with
    | true => rw [hb] at h; cases h; rw [beq_iff_eq.mp hb]; exact .head _
    | false => rw [hb] at h; exact .tail _ (lookup_mem h)
theorem Sub.get : ∀ {ρ' ρ : Store}, Sub ρ' ρ → ∀ {x : Str} {sl : Sl}, ρ'.lookup x = some sl → ρ.lookup x = some sl
  | p :: r, ρ, h, x, sl, e => by
    have hm := lookup_mem e
    rcases List.mem_cons.mp hm with q | q
    · rw [← q] at h; exact h.1
    · have key : ∀ {l : Store}, Sub l ρ → (x, sl) ∈ l → ρ.lookup x = some sl := by
        intro l
        induction l with
        | nil => intro _ q; cases q
        | cons p' r' ih =>
          intro h q
          rcases List.mem_cons.mp q with q | q
          · rw [← q] at h; exact h.1
          · exact ih h.2 q
      exact key h.2 q

theorem Frm.sub {C : Cx} {F : Fx} {W : Wt} {ρ ρ' : Store} {s : Shared} (f : Frm C F W ρ s) (h : Sub ρ' ρ) : Frm C F W ρ' s :=
  { f with
    vals := fun x d e => f.vals x d (h.get e)
    owns := fun x d e => f.owns x d (h.get e)
    apart := fun x y ds es v e1 e2 => f.apart x y ds es v (h.get e1) (h.get e2) }

/-! ## Judgements -/
/-- the expression gives d; all that stood stands -/
structure Ev (C : Cx) (F : Fx) (ρ : Store) (e : Expr) (d : D) : Prop where
  go : ∀ (W : Wt) (s : Shared) (Q : Value → Shared → Prop) (E : Value → Shared → Prop), Frm C F W ρ s → (∀ v s', Ex C s s' → Rp W.hid s'.heap v d → Q v s') → wpAny (model C.prog C.w) F.A (eval e F.env) Q E s

/-- the expression gives a new list -/
structure EvNew (C : Cx) (F : Fx) (ρ : Store) (e : Expr) (ds : List D) : Prop where
  go : ∀ (W : Wt) (s : Shared) (Q : Value → Shared → Prop) (E : Value → Shared → Prop), Frm C F W ρ s →
    (∀ a vs n s', Ex C s s' → s.heap.get? a = none → s'.heap.get? a = some ({ cls := .type "list", data := .seq vs n } : Obj) → Rps (fun b => W.hid b ∨ b = a) s'.heap vs.toList ds → Q (.ref a) s') → wpAny (model C.prog C.w) F.A (eval e F.env) Q E s

/-- a test -/
structure Ts (C : Cx) (F : Fx) (ρ : Store) (e : Expr) (b : Bool) : Prop where
  go : ∀ (W : Wt) (s : Shared) (Q : Bool → Shared → Prop) (E : Value → Shared → Prop), Frm C F W ρ s → (∀ s', Ex C s s' → Q b s') → wpAny (model C.prog C.w) F.A (isTrue e F.env (eval e F.env)) Q E s

/-- the items of a display or of a call -/
noncomputable def Evs (C : Cx) (F : Fx) (ρ : Store) (pos : Pos) (es : List Expr) (ds : List D) : Prop :=
  ((∀ x ∈ backTo pos (starEach es F.env), x.1 = false) ∧ (backTo pos (starEach es F.env) = [] → ds = [])) ∧
  ∀ (W : Wt) (s : Shared) (Q : List Value → Shared → Prop) (E : Value → Shared → Prop), Frm C F W ρ s → (∀ vs s', Ex C s s' → Rps W.hid s'.heap vs ds → Q vs s') → wpAny (model C.prog C.w) F.A (spliced (backTo pos (starEach es F.env))) Q E s

inductive Fl where
  | next | brk | cont
  | ret (d : D)

inductive FlR (hid : Addr → Prop) (h : Heap) : Flow → Fl → Prop
  | next : FlR hid h .next .next
  | brk : FlR hid h .brk .brk
  | cont : FlR hid h .cont .cont
  | ret {v : Value} {d : D} : Rp hid h v d → FlR hid h (.ret v) (.ret d)

/-- where a statement ends -/
noncomputable def End (C : Cx) (F : Fx) (K : Fl → Store → Prop) (f : Flow) (s : Shared) : Prop :=
  ∃ W ρ fl, Frm C F W ρ s ∧ FlR W.hid s.heap f fl ∧ K fl ρ
theorem End.imp {C : Cx} {F F' : Fx} {K : Fl → Store → Prop} {f : Flow} {s : Shared} (h : End C F K f s) (k : ∀ W ρ, Frm C F W ρ s → Frm C F' W ρ s) : End C F' K f s := by
  obtain ⟨W, ρ, fl, f', r, q⟩ := h
  exact ⟨W, ρ, fl, k W ρ f', r, q⟩
theorem FlR.of_next {hid : Addr → Prop} {h : Heap} {f : Flow} (x : FlR hid h f .next) : f = .next := by
  cases x with
  | next => rfl
theorem FlR.of_ret {hid : Addr → Prop} {h : Heap} {f : Flow} {d : D} (x : FlR hid h f (.ret d)) : ∃ v, f = .ret v ∧ Rp hid h v d := by
  cases x with
  | ret r => exact ⟨_, rfl, r⟩
theorem End.ret {C : Cx} {F : Fx} {d : D} {f : Flow} {s : Shared} {P : Prop} (h : End C F (fun fl zz => fl = .ret d) f s) (q : ∀ W ρ v, f = .ret v → Frm C F W ρ s → Rp W.hid s.heap v d → P) : P := by
  obtain ⟨W, ρ, fl, f', rf, hfl⟩ := h
  rw [hfl] at rf
  obtain ⟨v, hv, rr⟩ := rf.of_ret
  exact q W ρ v hv f' rr

structure W1 (C : Cx) (F : Fx) (ρ : Store) (st : Stmt) (K : Fl → Store → Prop) : Prop where
  go : ∀ (W : Wt) (s : Shared), Frm C F W ρ s → wpAny (model C.prog C.w) F.A (exec st F.env) (End C F K) (fun zz zz => False) s
structure Ws (C : Cx) (F : Fx) (ρ : Store) (sts : List Stmt) (K : Fl → Store → Prop) : Prop where
  go : ∀ (W : Wt) (s : Shared), Frm C F W ρ s → wpAny (model C.prog C.w) F.A (execs sts F.env) (End C F K) (fun zz zz => False) s

section
variable {C : Cx} {F : Fx} {ρ ρ' : Store} {K K' : Fl → Store → Prop}

theorem ws_nil (h : K .next ρ) : Ws C F ρ [] K := .mk fun W s f => wpAny_execs_nil ⟨W, ρ, .next, f, .next, h⟩
theorem ws_cons {st : Stmt} {sts : List Stmt} (h : W1 C F ρ st (fun fl ρ' => match fl with | .next => Ws C F ρ' sts K | fl => K fl ρ')) : Ws C F ρ (st :: sts) K := .mk fun W s f =>
  wpAny_execs_cons (wpAny_mono (h.go W s f) (fun fl s' k => by
    refine encl fun Go ret => ?_
    obtain ⟨W', ρ', fl', f', r, k⟩ := k
    cases r with
    | next => exact ret (Ws.go k W' s' f')
    | brk => exact ret ⟨W', ρ', _, f', .brk, k⟩
    | cont => exact ret ⟨W', ρ', _, f', .cont, k⟩
    | ret q => exact ret ⟨W', ρ', _, f', .ret q, k⟩) fun zz zz x => x)
theorem ws_sub {sts : List Stmt} (hs : Sub ρ' ρ) (h : Ws C F ρ' sts K) : Ws C F ρ sts K := .mk fun W s f => h.go W s (f.sub hs)
theorem w1_sub {st : Stmt} (hs : Sub ρ' ρ) (h : W1 C F ρ' st K) : W1 C F ρ st K := .mk fun W s f => h.go W s (f.sub hs)
theorem End.mono {f : Flow} {s : Shared} (h : End C F K f s) (hk : ∀ fl ρ', K fl ρ' → K' fl ρ') : End C F K' f s := by
  obtain ⟨W, ρ, fl, a, b, c⟩ := h
  exact ⟨W, ρ, fl, a, b, hk _ _ c⟩
theorem ws_mono {sts : List Stmt} (h : Ws C F ρ sts K) (hk : ∀ fl ρ', K fl ρ' → K' fl ρ') : Ws C F ρ sts K' := .mk fun W s f => wpAny_mono (h.go W s f) (fun zz zz x => x.mono hk) fun zz zz x => x
theorem w1_mono {st : Stmt} (h : W1 C F ρ st K) (hk : ∀ fl ρ', K fl ρ' → K' fl ρ') : W1 C F ρ st K' := .mk fun W s f => wpAny_mono (h.go W s f) (fun zz zz x => x.mono hk) fun zz zz x => x

/-! names -/
theorem Wt.get_of_local {W : Wt} {env : Env} {x : Str} (h : env.kindOf x = some .local) : W.get env x = W.m x := if_pos h

theorem ev_local {x : Str} {p : Pos} {d : D} (h : ρ.lookup x = some (.val d)) (hl : F.env.kindOf x = some .local) (hd : (x == ("__debug__" : Str)) = false := by decide) : Ev C F ρ (.Name x p) d := .mk fun W s Q E f q => by
  obtain ⟨v, e, r⟩ := f.vals x d h
  rw [Wt.get_of_local hl] at e
  exact wpAny_Name (wpAny_loadName_local f.kind hl f.ns e (q v s (Ex.refl f.gd) r)) hd
theorem ev_cell {x : Str} {p : Pos} {d : D} {c : Addr} (h : ρ.lookup x = some (.val d)) (hl : F.env.kindOf x = some .cell) (hc : F.env.cells.lookup x = some c) (hd : (x == ("__debug__" : Str)) = false := by decide) : Ev C F ρ (.Name x p) d := .mk fun W s Q E f q => by
  obtain ⟨v, e, r⟩ := f.vals x d h
  rw [Wt.get, if_neg (by rw [hl]; decide)] at e
  exact wpAny_Name (wpAny_loadName_cell f.kind hl hc (e ▸ f.cells x c hc) (q v s (Ex.refl f.gd) r)) hd
theorem ev_free {x : Str} {p : Pos} {d : D} {c : Addr} (h : ρ.lookup x = some (.val d)) (hl : F.env.kindOf x = some .free) (hc : F.env.cells.lookup x = some c) (hd : (x == ("__debug__" : Str)) = false := by decide) (hn : (x == ("__classdict__" : Str)) = false := by decide) : Ev C F ρ (.Name x p) d := .mk fun W s Q E f q => by
  obtain ⟨v, e, r⟩ := f.vals x d h
  rw [Wt.get, if_neg (by rw [hl]; decide)] at e
  exact wpAny_Name (wpAny_loadName_free f.kind hl hc (e ▸ f.cells x c hc) (q v s (Ex.refl f.gd) r) hn) hd

/-- a name of the module's: its value there -/
theorem global_any {W : Wt} {s : Shared} {x : Str} {p : Pos} {v : Value} {Q : Value → Shared → Prop} {E : Value → Shared → Prop} (f : Frm C F W ρ s) (hx : F.env.kindOf x = some .globalImplicit) (hm : C.mg x = some v) (h : Q v s)
    (hd : (x == ("__debug__" : Str)) = false := by decide) : wpAny (model C.prog C.w) F.A (eval (.Name x p) F.env) Q E s :=
  Name_function_global f.kind hx (loadGlobal_global (by rw [f.glob]; exact f.ok.g.keeps f.gd.keep) hm h) hd
theorem builtin_any {W : Wt} {s : Shared} {x : Str} {p : Pos} {v : Value} {Q : Value → Shared → Prop} {E : Value → Shared → Prop} (f : Frm C F W ρ s) (hx : F.env.kindOf x = some .globalImplicit) (hm : C.mg x = none) (hb : bootBuiltins x = some v) (h : Q v s)
    (hn : x ≠ "__name__" := by decide) (hd : (x == ("__debug__" : Str)) = false := by decide) : wpAny (model C.prog C.w) F.A (eval (.Name x p) F.env) Q E s :=
  Name_function_global f.kind hx (loadGlobal_builtin (by rw [f.glob]; exact f.ok.g.keeps f.gd.keep) hm (by rw [f.blt]; exact f.ok.b.keeps f.gd.keep) ((f.ok.builtins x hn).trans hb) h) hd

/-! constants -/
theorem ev_int {i : Int} {k : Nat} {p : Pos} : Ev C F ρ (.Constant (.int i) k p) (.int i) := .mk fun W s Q E f q => wpAny_Constant_int (q _ _ (Ex.toks f.gd) (.int _ _))
theorem ev_str {x : Str} {k : Nat} {p : Pos} : Ev C F ρ (.Constant (.str x) k p) (.str x) := .mk fun W s Q E f q => Constant_str (q _ _ (Ex.toks f.gd) (.str _ _))
theorem ev_bool {b : Bool} {k : Nat} {p : Pos} : Ev C F ρ (.Constant (.bool b) k p) (.bool b) := .mk fun W s Q E f q => wpAny_Constant_bool (q _ _ (Ex.refl f.gd) (.bool _))
theorem ev_none {k : Nat} {p : Pos} : Ev C F ρ (.Constant .none k p) .none := .mk fun W s Q E f q => wpAny_Constant_none (q _ _ (Ex.refl f.gd) .none)

/-! operators -/
theorem ev_bin {l r : Expr} {op : Operator} {p : Pos} {a b d : D} (hl : Ev C F ρ l a) (hr : Ev C F ρ r b) (h : Bin C op a b d) (hk : 1 ≤ F.k) : Ev C F ρ (.BinOp l op r p) d := .mk fun W s Q E f q =>
  wpAny_BinOp (hl.go W s _ _ f fun v s₁ x r₁ => hr.go W s₁ _ _ (f.ex x) fun v₂ s₂ y r₂ =>
    h F.A W.hid s₂ [v, v₂] _ _ (f.rm.mono hk) y.gd ((f.ex x).ex y).bd (.cons (r₁.ex x.gd y) (.cons r₂ .nil)) fun v₃ s₃ z r₃ => q v₃ s₃ ((x.trans y).trans z) r₃)
theorem ev_cmp {l r : Expr} {op : CmpOp} {p : Pos} {a b : D} {c : Bool} (hl : Ev C F ρ l a) (hr : Ev C F ρ r b) (h : Cmp C op a b c) (hk : 1 ≤ F.k) (hm : behindInMarks op r = false := by with_unfolding_all rfl) : Ev C F ρ (.Compare l [op] [r] p) (.bool c) := .mk fun W s Q E f q =>
  wpAny_Compare1 (hl.go W s _ _ f fun v s₁ x r₁ => hr.go W s₁ _ _ (f.ex x) fun v₂ s₂ y r₂ =>
    h F.A W.hid s₂ [v, v₂] _ _ (f.rm.mono hk) y.gd ((f.ex x).ex y).bd (.cons (r₁.ex x.gd y) (.cons r₂ .nil)) fun v₃ s₃ z r₃ => q v₃ s₃ ((x.trans y).trans z) r₃) hm
theorem ts_cmp {l r : Expr} {op : CmpOp} {p : Pos} {a b : D} {c : Bool} (hl : Ev C F ρ l a) (hr : Ev C F ρ r b) (h : Cmp C op a b c) (hk : 1 ≤ F.k) (hm : behindInMarks op r = false := by with_unfolding_all rfl) : Ts C F ρ (.Compare l [op] [r] p) c := .mk fun W s Q E f q =>
  wpAny_isTrue_Compare1 (hm := hm) (hl.go W s _ _ f fun v s₁ x r₁ => hr.go W s₁ _ _ (f.ex x) fun v₂ s₂ y r₂ =>
    h F.A W.hid s₂ [v, v₂] _ _ (f.rm.mono hk) y.gd ((f.ex x).ex y).bd (.cons (r₁.ex x.gd y) (.cons r₂ .nil)) fun v₃ s₃ z r₃ => by
      rw [r₃.bool_inv]
      exact wpAny_truthy_bool (q s₃ ((x.trans y).trans z)))
end
end Mine
/-! M3 -/
namespace Mine
open PySem PySem.W PySem.Spec PySem.Calls PyProof.Rows

theorem Rp.same {hid : Addr → Prop} {h h' : Heap} {a : Addr} {v : Value} {d : D} (ha : hid a) (hs : ∀ b o, b ≠ a → h.get? b = some o → h'.get? b = some o) (r : Rp hid h v d) : Rp hid h' v d :=
  r.mono fun b o n e zz => ⟨n, hs b o (fun q => n (q ▸ ha)) e⟩
theorem Rps.same {hid : Addr → Prop} {h h' : Heap} {a : Addr} {vs : List Value} {ds : List D} (ha : hid a) (hs : ∀ b o, b ≠ a → h.get? b = some o → h'.get? b = some o) (r : Rps hid h vs ds) : Rps hid h' vs ds :=
  r.mono fun b o n e zz => ⟨n, hs b o (fun q => n (q ▸ ha)) e⟩
theorem Rp.hide {hid : Addr → Prop} {h : Heap} {a : Addr} {v : Value} {d : D} (ha : h.get? a = Option.none) (r : Rp hid h v d) : Rp (fun b => hid b ∨ b = a) h v d :=
  r.mono fun b o n e zz => ⟨fun q => q.elim n fun q => no_at e ha q, e⟩
theorem Rps.hide {hid : Addr → Prop} {h : Heap} {a : Addr} {vs : List Value} {ds : List D} (ha : h.get? a = Option.none) (r : Rps hid h vs ds) : Rps (fun b => hid b ∨ b = a) h vs ds :=
  r.mono fun b o n e zz => ⟨fun q => q.elim n fun q => no_at e ha q, e⟩
theorem Rp.less {hid hid' : Addr → Prop} {h : Heap} {v : Value} {d : D} (hs : ∀ a, hid' a → hid a) (r : Rp hid h v d) : Rp hid' h v d :=
  r.mono fun b o n e zz => ⟨fun q => n (hs b q), e⟩
theorem Rps.less {hid hid' : Addr → Prop} {h : Heap} {vs : List Value} {ds : List D} (hs : ∀ a, hid' a → hid a) (r : Rps hid h vs ds) : Rps hid' h vs ds :=
  r.mono fun b o n e zz => ⟨fun q => n (hs b q), e⟩

theorem Rps.map {hid hid' : Addr → Prop} {h h' : Heap} {vs : List Value} {ds : List D} (k : ∀ v d, Rp hid h v d → Rp hid' h' v d) (r : Rps hid h vs ds) : Rps hid' h' vs ds := by
  induction vs generalizing ds with
  | nil => cases r; exact .nil
  | cons u us ih => cases r with | cons a b => exact .cons (k _ _ a) (ih b)

theorem Rps.setAt {hid : Addr → Prop} {h : Heap} {z : Value} {d : D} (r₄ : Rp hid h z d) : ∀ {us : List Value} {es : List D} (j : Nat), Rps hid h us es → Rps hid h (us.set j z) (es.set j d) := by
  intro us
  induction us with
  | nil => intro es j hr; cases hr; exact .nil
  | cons u us ih =>
    intro es j hr
    cases hr with
    | cons p q => cases j with
      | zero => exact .cons r₄ q
      | succ j => exact .cons p (ih j q)

theorem Frm.free {C : Cx} {F : Fx} {W : Wt} {ρ : Store} {s : Shared} {a : Addr} (f : Frm C F W ρ s) (ha : F.sc.get? a = none) : C.gh.get? a = none := by
  cases q : C.gh.get? a with
  | none => rfl
  | some o => exact no_at (f.scg a o q) ha rfl

theorem Frm.fresh {C : Cx} {F : Fx} {W : Wt} {ρ : Store} {s : Shared} {a : Addr} (f : Frm C F W ρ s) (h : s.heap.get? a = none) : F.sc.get? a = none := by
  cases q : F.sc.get? a with
  | none => rfl
  | some o =>
    rcases off_or f.gd a with h1 | ⟨o', e⟩
    · exact no_at (f.sc a o h1 q) h rfl
    · exact no_at e h rfl
theorem Own.same {C : Cx} {F : Fx} {W : Wt} {h h' : Heap} {b : Addr} {v : Value} {ds : List D} (hb : W.hid b) (hs : ∀ c o, c ≠ b → h.get? c = some o → h'.get? c = some o) (hv : v ≠ .ref b) (o : Own F W h v ds) : Own F W h' v ds := by
  obtain ⟨a, vs, n, e1, e2, e3, e4, e5, e6, e7, e8⟩ := o
  exact ⟨a, vs, n, e1, hs _ _ (fun q => hv (by rw [e1, q])) e2, e3.same hb hs, e4, e5, e6, e7, e8⟩

noncomputable def SlAt (F : Fx) (W : Wt) (h : Heap) (v : Value) : Sl → Prop
  | .val d => Rp W.hid h v d
  | .own ds => Own F W h v ds

theorem lookup_cons_ne {α : Type} {x y : Str} {v : α} {l : List (Str × α)} (h : y ≠ x) : List.lookup y ((x, v) :: l) = l.lookup y := by
  rw [List.lookup_cons]
  cases q : y == x with
  | true => exact absurd (beq_iff_eq.mp q) h
  | false => rfl
theorem lookup_cons_self {α : Type} {x : Str} {v : α} {l : List (Str × α)} : List.lookup x ((x, v) :: l) = some v := by
  rw [List.lookup_cons]; simp

/-- what a store says once a name has got a slot -/
theorem lookup_put {x : Str} {sl : Sl} {ρ : Store} {P : Str → Sl → Prop} (h : P x sl) (k : ∀ y sl', y ≠ x → ρ.lookup y = some sl' → P y sl') : ∀ y sl', List.lookup y ((x, sl) :: ρ) = some sl' → P y sl' := by
  intro y sl' e
  by_cases hy : y = x
  · rw [hy] at e ⊢
    rw [lookup_cons_self] at e
    exact Option.some.inj e ▸ h
  · rw [lookup_cons_ne hy] at e
    exact k y sl' hy e
/-- the store's three words once a name has got a slot -/
theorem put_vals {F : Fx} {W W' : Wt} {h : Heap} {x : Str} {v : Value} {sl : Sl} {ρ : Store} (hx : W'.get F.env x = some v) (hsl : SlAt F W' h v sl) (ho : ∀ y, y ≠ x → W'.get F.env y = W.get F.env y)
    (k : ∀ y d, ρ.lookup y = some (.val d) → ∃ w, W.get F.env y = some w ∧ Rp W'.hid h w d) : ∀ y d, List.lookup y ((x, sl) :: ρ) = some (.val d) → ∃ w, W'.get F.env y = some w ∧ Rp W'.hid h w d :=
  fun y d e => lookup_put (P := fun y sl' => sl' = .val d → ∃ w, W'.get F.env y = some w ∧ Rp W'.hid h w d) (fun q => ⟨v, hx, by rw [q] at hsl; exact hsl⟩) (fun y sl' hy e q => by rw [ho y hy]; exact k y d (q ▸ e)) y _ e rfl
theorem put_owns {F : Fx} {W W' : Wt} {h : Heap} {x : Str} {v : Value} {sl : Sl} {ρ : Store} (hx : W'.get F.env x = some v) (hsl : SlAt F W' h v sl) (ho : ∀ y, y ≠ x → W'.get F.env y = W.get F.env y)
    (k : ∀ y d, y ≠ x → ρ.lookup y = some (.own d) → ∃ w, W.get F.env y = some w ∧ Own F W' h w d) : ∀ y d, List.lookup y ((x, sl) :: ρ) = some (.own d) → ∃ w, W'.get F.env y = some w ∧ Own F W' h w d :=
  fun y d e => lookup_put (P := fun y sl' => sl' = .own d → ∃ w, W'.get F.env y = some w ∧ Own F W' h w d) (fun q => ⟨v, hx, by rw [q] at hsl; exact hsl⟩) (fun y sl' hy e q => by rw [ho y hy]; exact k y d hy (q ▸ e)) y _ e rfl
theorem put_apart {F : Fx} {W W' : Wt} {x : Str} {v : Value} {sl : Sl} {ρ : Store} (hx : W'.get F.env x = some v) (ho : ∀ y, y ≠ x → W'.get F.env y = W.get F.env y)
    (hap : ∀ es, sl = .own es → ∀ y es', y ≠ x → ρ.lookup y = some (.own es') → W.get F.env y ≠ some v) (k : ∀ x y ds es v, ρ.lookup x = some (.own ds) → ρ.lookup y = some (.own es) → W.get F.env x = some v → W.get F.env y = some v → x = y) :
    ∀ y z ds es w, List.lookup y ((x, sl) :: ρ) = some (.own ds) → List.lookup z ((x, sl) :: ρ) = some (.own es) → W'.get F.env y = some w → W'.get F.env z = some w → y = z := by
  intro y z ds es w e1 e2 e3 e4
  by_cases hy : y = x
  · by_cases hz : z = x
    · rw [hy, hz]
    · rw [hy] at e1 e3
      rw [lookup_cons_self] at e1
      rw [lookup_cons_ne hz] at e2
      rw [hx] at e3
      exact absurd ((ho z hz).symm.trans (e4.trans e3.symm)) (hap _ (Option.some.inj e1) z _ hz e2)
  · rw [lookup_cons_ne hy] at e1
    by_cases hz : z = x
    · rw [hz] at e2 e4
      rw [lookup_cons_self] at e2
      rw [hx] at e4
      exact absurd ((ho y hy).symm.trans (e3.trans e4.symm)) (hap _ (Option.some.inj e2) y _ hy e1)
    · rw [lookup_cons_ne hz] at e2
      exact k y z _ _ _ e1 e2 ((ho y hy).symm.trans e3) ((ho z hz).symm.trans e4)

/-- a name of the frame's gets a value -/
theorem Frm.put {C : Cx} {F : Fx} {W : Wt} {ρ : Store} {s : Shared} {h' : Heap} {tk : Nat} {x : Str} {v : Value} {sl : Sl} (f : Frm C F W ρ s) (hl : F.env.kindOf x = some .local) (r : SlAt F W s.heap v sl)
    (hap : ∀ es, sl = .own es → ∀ y es', y ≠ x → ρ.lookup y = some (.own es') → W.get F.env y ≠ some v)
    (hn : h'.Ns F.env.locals (fun y => if y = x then some v else W.m y)) (hs : Heap.SameBut F.env.locals s.heap h') :
    Frm C F { W with m := fun y => if y = x then some v else W.m y } ((x, sl) :: ρ) { s with heap := h', toks := tk } := by
  have hsb : ∀ b o, b ≠ F.env.locals → s.heap.get? b = some o → h'.get? b = some o := fun b o n e => (hs.2 b n).trans e
  obtain ⟨oL, es, ep, eL, hdL, rL⟩ := f.ns
  have oth : ∀ y, y ≠ x → Wt.get { W with m := fun y => if y = x then some v else W.m y } F.env y = W.get F.env y := fun y hy => by
    unfold Wt.get
    split
    · exact if_neg hy
    · rfl
  have self : Wt.get { W with m := fun y => if y = x then some v else W.m y } F.env x = some v := (if_pos hl).trans (if_pos rfl)
  have rp : ∀ {w d}, Rp W.hid s.heap w d → Rp W.hid h' w d := fun r => r.same (a := F.env.locals) f.hL hsb
  have ownp : ∀ w ds, Own F W s.heap w ds → Own F { W with m := fun y => if y = x then some v else W.m y } h' w ds := by
    intro w ds o
    obtain ⟨a, vs, n, e1, e2, e3, e4, e5, e6, e7, e8⟩ := o
    exact ⟨a, vs, n, e1, hsb _ _ e6 e2, e3.same (a := F.env.locals) f.hL hsb, e4, e5, e6, e7, e8⟩
  have slp : SlAt F { W with m := fun y => if y = x then some v else W.m y } h' v sl := match sl, r with
    | .val _, r => rp r
    | .own _, r => ownp _ _ r
  exact { f with
    gd := f.gd.same (f.gd.off eL (fun zz q => by rw [hdL] at q; cases q)) eL (fun vs q => by rw [hdL] at q; cases q) (f.free f.lloc) hsb, ns := hn
    cells := fun y c e1 => by
      obtain ⟨o, e2, hd⟩ := f.cells y c e1
      refine ⟨o, hsb _ _ (fun q => ?_) e2, hd⟩
      rw [q, eL] at e2
      cases e2; rw [hdL] at hd; cases hd
    vals := put_vals self slp oth fun y d e => (f.vals y d e).imp fun zz q => ⟨q.1, rp q.2⟩
    owns := put_owns self slp oth fun y d zz e => (f.owns y d e).imp fun zz q => ⟨q.1, ownp _ _ q.2⟩
    apart := put_apart self oth hap f.apart
    sc := fun b o n e1 => hsb _ _ (fun q => no_at e1 f.lloc q) (f.sc b o n e1)
    pins := fun p hp => have q := f.pins p hp; ⟨hsb _ _ q.2.2.2.1 q.1, q.2⟩
    seen := fun p hp => rp (f.seen p hp)
    bd := fun b q => by
      by_cases hb : b = F.env.locals
      · obtain ⟨o, _, _, e2, _⟩ := hn; rw [hb]; exact ⟨o, e2⟩
      · obtain ⟨o, e2⟩ := f.bd b q; exact ⟨o, hsb b o hb e2⟩ }

theorem stp {env : Env} (hk : env.scope.kind = .function) : (env.scope.kind == .class || (env.scope.kind == .module && env.locals != env.globals)) = false := by rw [hk]; rfl

section
variable {C : Cx} {F : Fx} {ρ ρ' : Store} {K K' : Fl → Store → Prop}

theorem store_val {W : Wt} {s : Shared} {x : Str} {v : Value} {d : D} {Q : Unit → Shared → Prop} {E : Value → Shared → Prop} (f : Frm C F W ρ s) (hl : F.env.kindOf x = some .local) (r : Rp W.hid s.heap v d)
    (h : ∀ W' s', Frm C F W' ((x, .val d) :: ρ) s' → W'.hid = W.hid → (∀ w e, Rp W.hid s.heap w e → Rp W.hid s'.heap w e) → Q () s') : wpAny (model C.prog C.w) F.A (storeName F.env x v) Q E s :=
  wpAny_storeName_local hl f.ns (fun h' hn hs => h _ _ (f.put (sl := .val d) hl r (fun es q => by cases q) hn hs) rfl
    fun w e q => q.same (a := F.env.locals) f.hL (fun b o n e => (hs.2 b n).trans e)) (stp f.kind)

theorem w1_assign {x : Str} {p' p : Pos} {e : Expr} {d : D} (he : Ev C F ρ e d) (h : K .next ((x, .val d) :: ρ)) (hl : F.env.kindOf x = some .local) (hs : swapsWith e (some (.Name x p')) p.line F.env = pure false := by rfl) :
    W1 C F ρ (.Assign [.Name x p'] e p) K := .mk fun W s f =>
  wpAny_Assign_Name (he.go W s _ _ f fun v s₁ x₁ r => store_val (f.ex x₁) hl r fun W' s' f' zz zz => ⟨W', _, _, f', .next, h⟩) hs

/-- hide a new list -/
theorem Frm.hide {W : Wt} {s s₁ : Shared} {a : Addr} (f : Frm C F W ρ s) (x : Ex C s s₁) (h1 : s.heap.get? a = none) (h2 : ∃ o, s₁.heap.get? a = some o) : Frm C F { W with hid := fun b => W.hid b ∨ b = a } ρ s₁ :=
  let f₁ := f.ex x
  { f₁ with
    cfree := fun hcs y c e1 e2 => have q := f.cfree hcs y c e1 e2; ⟨q.1, q.2.1, .inl q.2.2.1, q.2.2.2⟩
    vals := fun y d e1 => (f.vals y d e1).imp fun zz q => ⟨q.1, (Rp.hide h1 q.2).ex f.gd x⟩
    owns := fun y d e1 => (f.owns y d e1).imp fun zz q => ⟨q.1, Own.ex' f.gd x (q.2.keep (fun b ob n e zz => ⟨fun q => q.elim n fun q => no_at e h1 q, e⟩) (fun a zz zz h1 h2 h3 => ⟨fun zz e zz => e, .inl h1, h2, h3⟩) rfl)⟩
    pins := fun p hp => have q := f₁.pins p hp; ⟨q.1, q.2.1, .inl q.2.2.1, q.2.2.2⟩
    seen := fun p hp => ((f.seen p hp).hide h1).ex f.gd x
    hL := .inl f.hL
    hH := fun b q => .inl (f.hH b q)
    bd := fun b q => q.elim (fun q => f₁.bd b q) fun q => by rw [q]; exact h2 }

theorem Frm.own_new {W : Wt} {s s₁ : Shared} {a : Addr} {vs : Array Value} {n : Nat} {ds : List D} (f : Frm C F W ρ s) (h1 : s.heap.get? a = none) (h2 : s₁.heap.get? a = some ({ cls := .type "list", data := .seq vs n } : Obj)) (r : Rps (fun b => W.hid b ∨ b = a) s₁.heap vs.toList ds) :
    Own F { W with hid := fun b => W.hid b ∨ b = a } s₁.heap (.ref a) ds :=
  ⟨a, vs, n, rfl, h2, r, .inr rfl, f.fresh h1, fun q => (ns_at f.ns).elim fun zz e => no_at e h1 q.symm, fun y c e1 q => (f.cells y c e1).elim fun zz e => no_at e.1 h1 q.symm, fun p hp q => no_at (f.pins p hp).1 h1 q.symm⟩
theorem Frm.own_other {W : Wt} {s : Shared} {a : Addr} (f : Frm C F W ρ s) (h1 : s.heap.get? a = none) {y : Str} {es : List D} (e1 : ρ.lookup y = some (.own es)) : W.get F.env y ≠ some (.ref a) := fun e2 => by
  obtain ⟨w, e3, b, vs, n, q1, q2, _⟩ := f.owns y es e1
  rw [e3, q1] at e2
  cases e2
  exact no_at q2 h1 rfl
theorem w1_assign_new {x : Str} {p' p : Pos} {e : Expr} {ds : List D} (he : EvNew C F ρ e ds) (h : K .next ((x, .own ds) :: ρ)) (hl : F.env.kindOf x = some .local) (hs : swapsWith e (some (.Name x p')) p.line F.env = pure false := by rfl) :
    W1 C F ρ (.Assign [.Name x p'] e p) K := .mk fun W s f =>
  wpAny_Assign_Name (he.go W s _ _ f fun a vs n s₁ x₁ h1 h2 r => by
    exact wpAny_storeName_local hl (f.hide x₁ h1 ⟨_, h2⟩).ns (fun h' hn hs => ⟨_, _, _, (f.hide x₁ h1 ⟨_, h2⟩).put (sl := .own ds) hl (f.own_new h1 h2 r) (fun es zz y es' hy e1 => f.own_other h1 e1) hn hs, .next, h⟩) (stp f.kind)) hs

/-- a list of the frame's own is handed on: it changes no more -/
theorem Frm.freeze {W : Wt} {s : Shared} {x : Str} {ds : List D} (f : Frm C F W ρ s) (h : ρ.lookup x = some (.own ds)) : ∃ W', Frm C F W' ((x, .val (.lst ds)) :: ρ) s ∧ ∀ a, W'.hid a → W.hid a := by
  obtain ⟨v, e, o⟩ := f.owns x ds h
  obtain ⟨a, vs, n, q1, e2, r, q4, q5, q6, q7, q8⟩ := o
  have ls : ∀ b, W.hid b ∧ b ≠ a → W.hid b := fun b q => q.1
  have sl : SlAt F { W with hid := fun b => W.hid b ∧ b ≠ a } s.heap v (.val (.lst ds)) := by rw [q1]; exact .lst (fun q => q.2 rfl) e2 ⟨rfl, rfl, ⟨n, rfl⟩, rfl⟩ (Rps.less ls r)
  exact ⟨{ W with hid := fun b => W.hid b ∧ b ≠ a }, { f with
    cfree := fun hcs y c e1 e3 => have q := f.cfree hcs y c e1 e3; ⟨q.1, q.2.1, ⟨q.2.2.1, fun z => q7 y c e1 z.symm⟩, q.2.2.2⟩
    vals := put_vals (W := W) e sl (fun zz zz => rfl) fun y d e1 => (f.vals y d e1).imp fun zz q => ⟨q.1, Rp.less ls q.2⟩
    owns := put_owns (W := W) e sl (fun zz zz => rfl) fun y d hy e1 => by
      obtain ⟨w, e3, b, vs', n', p1, p2, p3, p4, p5, p6, p7, p8⟩ := f.owns y d e1
      exact ⟨w, e3, b, vs', n', p1, p2, Rps.less ls p3, ⟨p4, fun q => hy (f.apart y x _ _ _ e1 h e3 (e.trans (by rw [q1, p1, q])))⟩, p5, p6, p7, p8⟩
    apart := put_apart (W := W) e (fun zz zz => rfl) nofun f.apart
    pins := fun p hp => have q := f.pins p hp; ⟨q.1, q.2.1, ⟨q.2.2.1, fun z => q8 p hp z.symm⟩, q.2.2.2⟩
    seen := fun p hp => (f.seen p hp).less ls, hL := ⟨f.hL, fun q => q6 q.symm⟩, hH := fun b q => ⟨f.hH b q, fun z => (by obtain ⟨o, e2⟩ := f.Hb b q; exact no_at e2 q5 z)⟩, bd := fun b q => f.bd b q.1 }, fun b q => q.1⟩
end
end Mine
/-! M4 -/
namespace Mine
open PySem PySem.W PySem.Spec PySem.Calls PyProof.Rows

/-! ## ints -/
section
variable {C : Cx}
theorem bin_ii {op : Operator} {a b c : Int} (h : ∀ (A : Around) (s : Shared) (t u : Tok) (Q E : Value → Shared → Prop), Rm C A 1 → Gd C s → Q (.int c s.toks) { s with toks := s.toks + 1 } → wpAny (model C.prog C.w) A (binaryOp op (.int a t) (.int b u)) Q E s) : Bin C op (.int a) (.int b) (.int c) := by
  intro A hid s vs Q E rm g bd r q
  obtain ⟨v, w, rfl, rv, rw'⟩ := r.two
  obtain ⟨t, rfl⟩ := rv.int_inv
  obtain ⟨u, rfl⟩ := rw'.int_inv
  exact h A s t u Q E rm g (q _ _ (Ex.toks g) (.int _ _))
theorem iop_ii {op : Operator} {a b c : Int} (h : ∀ (A : Around) (s : Shared) (t u : Tok) (Q E : Value → Shared → Prop), Rm C A 1 → Gd C s → Q (.int c s.toks) { s with toks := s.toks + 1 } → wpAny (model C.prog C.w) A (inplaceOp op (.int a t) (.int b u)) Q E s) : Iop C op (.int a) (.int b) (.int c) := by
  intro A hid s vs Q E rm g bd r q
  obtain ⟨v, w, rfl, rv, rw'⟩ := r.two
  obtain ⟨t, rfl⟩ := rv.int_inv
  obtain ⟨u, rfl⟩ := rw'.int_inv
  exact h A s t u Q E rm g (q _ _ (Ex.toks g) (.int _ _))
theorem cmp_ii {op : CmpOp} {a b : Int} {c : Bool} (h : ∀ (A : Around) (s : Shared) (t u : Tok) (Q E : Value → Shared → Prop), Q (.bool c) s → wpAny (model C.prog C.w) A (compareOp op (.int a t) (.int b u)) Q E s) : Cmp C op (.int a) (.int b) c := by
  intro A hid s vs Q E rm g bd r q
  obtain ⟨v, w, rfl, rv, rw'⟩ := r.two
  obtain ⟨t, rfl⟩ := rv.int_inv
  obtain ⟨u, rfl⟩ := rw'.int_inv
  exact h A s t u Q E (q _ _ (Ex.refl g) (.bool _))

theorem bin_sub {a b : Int} : Bin C .Sub (.int a) (.int b) (.int (a - b)) := bin_ii fun A s t u Q E zz zz q => P.sub_int q
theorem bin_mul {a b : Int} (h : IntMulOk a b) : Bin C .Mult (.int a) (.int b) (.int (a * b)) := bin_ii fun A s t u Q E zz zz q => P.mul_int q h
theorem bin_floordiv {a b : Int} (h : b ≠ 0) (hp : Builtin.divisionGoesByPylong a b = false) : Bin C .FloorDiv (.int a) (.int b) (.int (a.fdiv b)) := bin_ii fun A s t u Q E zz zz q => floordiv_int h q (.inl hp)
theorem bin_mod {a b : Int} (h : b ≠ 0) : Bin C .Mod (.int a) (.int b) (.int (a.fmod b)) := bin_ii fun A s t u Q E zz zz q => PyProof.Rows.mod_int h q
theorem bin_pow {a b : Int} (h : 0 ≤ b) (hz : (Builtin.Int.intBits a : Int) * b ≤ 2 ^ 27) : Bin C .Pow (.int a) (.int b) (.int (a ^ b.toNat)) := bin_ii fun A s t u Q E zz zz q => pow_int h hz q
theorem bin_shl {a b : Int} (h : 0 ≤ b) (hz : (Builtin.Int.intBits a : Int) + b ≤ 2 ^ 27) (h0' : C.hd = none := by assumption) : Bin C .LShift (.int a) (.int b) (.int (a * 2 ^ b.toNat)) := bin_ii fun A s t u Q E rm zz q => lshift_int_or (rm.h0 h0') (fun q => absurd q (by (clear hz; lia))) (fun zz => hz) (fun zz => q)
theorem bin_shr {a b : Int} (h : 0 ≤ b) : Bin C .RShift (.int a) (.int b) (.int (a.fdiv (2 ^ b.toNat))) := bin_ii fun A s t u Q E zz zz q => rshift_int h q
theorem bin_and {a b : Int} : Bin C .BitAnd (.int a) (.int b) (.int (Builtin.bitAnd a b)) := bin_ii fun A s t u Q E zz zz q => and_int q
theorem bin_or {a b : Int} : Bin C .BitOr (.int a) (.int b) (.int (Builtin.bitOr a b)) := bin_ii fun A s t u Q E zz zz q => or_int q
theorem bin_xor {a b : Int} : Bin C .BitXor (.int a) (.int b) (.int (Builtin.bitXor a b)) := bin_ii fun A s t u Q E zz zz q => xor_int q
theorem iop_add {a b : Int} : Iop C .Add (.int a) (.int b) (.int (a + b)) := iop_ii fun A s t u Q E zz zz q => P.iadd_int q
theorem iop_sub {a b : Int} : Iop C .Sub (.int a) (.int b) (.int (a - b)) := iop_ii fun A s t u Q E zz zz q => P.isub_int q
theorem iop_shl {a b : Int} (h : 0 ≤ b) (hz : (Builtin.Int.intBits a : Int) + b ≤ 2 ^ 27) : Iop C .LShift (.int a) (.int b) (.int (a * 2 ^ b.toNat)) := iop_ii fun A s t u Q E rm zz q => ilshift_int h hz q
theorem iop_shr {a b : Int} (h : 0 ≤ b) : Iop C .RShift (.int a) (.int b) (.int (a.fdiv (2 ^ b.toNat))) := iop_ii fun A s t u Q E zz zz q => irshift_int h q
theorem cmp_eq {a b : Int} : Cmp C .Eq (.int a) (.int b) (a == b) := cmp_ii fun A s t u Q E q => P.eq_int q
theorem cmp_ne {a b : Int} : Cmp C .NotEq (.int a) (.int b) (a != b) := cmp_ii fun A s t u Q E q => P.ne_int q
theorem cmp_lt {a b : Int} : Cmp C .Lt (.int a) (.int b) (decide (a < b)) := cmp_ii fun A s t u Q E q => P.lt_int q
theorem cmp_le {a b : Int} : Cmp C .LtE (.int a) (.int b) (decide (a ≤ b)) := cmp_ii fun A s t u Q E q => P.le_int q
theorem cmp_gt {a b : Int} : Cmp C .Gt (.int a) (.int b) (decide (a > b)) := cmp_ii fun A s t u Q E q => P.gt_int q
theorem cmp_ge {a b : Int} : Cmp C .GtE (.int a) (.int b) (decide (a ≥ b)) := cmp_ii fun A s t u Q E q => P.ge_int q

/-! ## texts -/
theorem str_eqb (x y : Str) : (x.cps.toList == y.cps.toList) = (x == y) := by
  obtain ⟨⟨x⟩⟩ := x; obtain ⟨⟨y⟩⟩ := y
  show (x == y) = _
  by_cases h : x = y
  · subst h; simp
  · rw [beq_eq_false_iff_ne.mpr h, eq_comm, beq_eq_false_iff_ne]; intro q; cases q; exact h rfl
theorem cmp_ss {op : CmpOp} {a b : Str} {c : Bool} (h : ∀ (A : Around) (s : Shared) (t u : Tok) (Q E : Value → Shared → Prop), Q (.bool c) s → wpAny (model C.prog C.w) A (compareOp op (.str a t) (.str b u)) Q E s) : Cmp C op (.str a) (.str b) c := by
  intro A hid s vs Q E rm g bd r q
  obtain ⟨v, w, rfl, rv, rw'⟩ := r.two
  obtain ⟨t, rfl⟩ := rv.str_inv
  obtain ⟨u, rfl⟩ := rw'.str_inv
  exact h A s t u Q E (q _ _ (Ex.refl g) (.bool _))
theorem cmp_seq {a b : Str} : Cmp C .Eq (.str a) (.str b) (a == b) := cmp_ss fun A s t u Q E q => P.eq_str (by rw [str_eqb]; exact q)
theorem cmp_sne {a b : Str} : Cmp C .NotEq (.str a) (.str b) (a != b) := cmp_ss fun A s t u Q E q => P.ne_str (by show Q (.bool (!(a.cps.toList == b.cps.toList))) s; rw [str_eqb]; exact q)
theorem cmp_sin {a b : Str} : Cmp C .In (.str a) (.str b) (Txt.contains b a) := cmp_ss fun A s t u Q E q => SB.contains q
theorem cmp_snotin {a b : Str} : Cmp C .NotIn (.str a) (.str b) (!Txt.contains b a) := cmp_ss fun A s t u Q E q => SB.notContains q
theorem bin_sadd {a b : Str} (h : a.length + b.length ≤ sizeLine) : Bin C .Add (.str a) (.str b) (.str (a ++ b)) := by
  intro A hid s vs Q E rm g bd r q
  obtain ⟨v, w, rfl, rv, rw'⟩ := r.two
  obtain ⟨t, rfl⟩ := rv.str_inv
  obtain ⟨u, rfl⟩ := rw'.str_inv
  exact SB.add (fun t' k => q _ _ (Ex.toks g) (.str _ _)) h
theorem iop_sadd {a b : Str} (h : a.length + b.length ≤ sizeLine) : Iop C .Add (.str a) (.str b) (.str (a ++ b)) := by
  intro A hid s vs Q E rm g bd r q
  obtain ⟨v, w, rfl, rv, rw'⟩ := r.two
  obtain ⟨t, rfl⟩ := rv.str_inv
  obtain ⟨u, rfl⟩ := rw'.str_inv
  exact SB.iadd (fun t' k => q _ _ (Ex.toks g) (.str _ _)) h
theorem bin_smul {a : Str} {n : Int} (h : MulOk a n) : Bin C .Mult (.str a) (.int n) (.str (Txt.mul a n)) := by
  intro A hid s vs Q E rm g bd r q
  obtain ⟨v, w, rfl, rv, rw'⟩ := r.two
  obtain ⟨t, rfl⟩ := rv.str_inv
  obtain ⟨u, rfl⟩ := rw'.int_inv
  exact SB.mul h (fun t' k => q _ _ (Ex.toks g) (.str _ _))

/-! ## is -/
theorem cmp_isnot_bb {a b : Bool} : Cmp C .IsNot (.bool a) (.bool b) (a != b) := by
  intro A hid s vs Q E rm g bd r q
  obtain ⟨v, w, rfl, rv, rw'⟩ := r.two
  cases rv.bool_inv; cases rw'.bool_inv
  refine wpAny_isNot_plain rfl ?_
  have := q (.bool (a != b)) s (Ex.refl g) (.bool _)
  cases a <;> cases b <;> exact this
theorem cmp_is_nn : Cmp C .Is .none .none true := by
  intro A hid s vs Q E rm g bd r q
  obtain ⟨v, w, rfl, rv, rw'⟩ := r.two
  cases rv.none_inv; cases rw'.none_inv
  exact wpAny_is_plain rfl (q _ _ (Ex.refl g) (.bool _))
theorem cmp_is_in {i : Int} : Cmp C .Is (.int i) .none false := by
  intro A hid s vs Q E rm g bd r q
  obtain ⟨v, w, rfl, rv, rw'⟩ := r.two
  obtain ⟨t, rfl⟩ := rv.int_inv
  cases rw'.none_inv
  exact wpAny_is_plain rfl (q _ _ (Ex.refl g) (.bool _))

/-! ## items -/
noncomputable def Itm (C : Cx) (a b d : D) : Prop := St C 1 (fun vs => match vs with | [x, y] => getItem x y | _ => pure .none) [a, b] d
theorem IsSeq.isList {T : String} {vs : List Value} {o : Obj} {h : Heap} {a : Addr} (q : IsSeq "list" vs o) (e : h.get? a = some o) : h.IsList a vs.toArray := ⟨o, e, q.1, q.2.2.1⟩
theorem IsSeq.isTup {vs : List Value} {o : Obj} {h : Heap} {a : Addr} (q : IsSeq "tuple" vs o) (e : h.get? a = some o) : IsTup h a vs.toArray := ⟨o, e, q.1, q.2.2.1⟩
theorem itm_list {ds : List D} {k : Int} {d : D} (h0 : 0 ≤ k) (h1 : k < 2 ^ 63) (hd : ds[k.toNat]? = some d) : Itm C (.lst ds) (.int k) d := by
  intro A hid s vs Q E rm g bd r q
  obtain ⟨v, w, rfl, rv, rw'⟩ := r.two
  obtain ⟨a, o, vs, rfl, n, e, q1, r1⟩ := rv.lst_inv
  obtain ⟨u, rfl⟩ := rw'.int_inv
  obtain ⟨v, e2, r2⟩ := r1.get hd
  exact wpAny_getItem_list (q1.isList (T := "list") e) h0 h1 (by simpa using e2) (q _ _ (Ex.refl g) r2)
theorem itm_list_neg {ds : List D} {k : Int} {d : D} (h0 : k < 0) (h1 : -(ds.length : Int) ≤ k) (h2 : -(2 ^ 63) ≤ k) (hd : ds[(k + ds.length).toNat]? = some d) : Itm C (.lst ds) (.int k) d := by
  intro A hid s vs Q E rm g bd r q
  obtain ⟨v, w, rfl, rv, rw'⟩ := r.two
  obtain ⟨a, o, vs, rfl, n, e, q1, r1⟩ := rv.lst_inv
  obtain ⟨u, rfl⟩ := rw'.int_inv
  obtain ⟨v, e2, r2⟩ := r1.get hd
  have hl := r1.length
  exact wpAny_getItem_list_neg (q1.isList (T := "list") e) h0 (by simpa [hl] using h1) h2 (by simpa [hl] using e2) (q _ _ (Ex.refl g) r2)
theorem itm_tup {ds : List D} {k : Int} {j : Nat} {d : D} (h0 : -(2 ^ 63) ≤ k) (h1 : k < 2 ^ 63) (hj : seqIndex? k ds.length = some j) (hd : ds[j]? = some d) : Itm C (.tup ds) (.int k) d := by
  intro A hid s vs Q E rm g bd r q
  obtain ⟨v, w, rfl, rv, rw'⟩ := r.two
  obtain ⟨a, o, vs, rfl, n, e, q1, r1⟩ := rv.tup_inv
  obtain ⟨u, rfl⟩ := rw'.int_inv
  obtain ⟨v, e2, r2⟩ := r1.get hd
  have hl := r1.length
  exact getItem_tuple (q1.isTup e) h0 h1 (by simpa [hl] using hj) (by simpa using e2) (q _ _ (Ex.refl g) r2)
theorem itm_str {x : Str} {i : Int} {c : Nat} (hr : (decide (i < -(2 ^ 63 : Int)) || decide (i ≥ 2 ^ 63)) = false) (hc : (seqIndex? i x.length).bind (x.cps[·]?) = some c) : Itm C (.str x) (.int i) (.str ⟨#[c]⟩) := by
  intro A hid s vs Q E rm g bd r q
  obtain ⟨v, w, rfl, rv, rw'⟩ := r.two
  obtain ⟨t, rfl⟩ := rv.str_inv
  obtain ⟨u, rfl⟩ := rw'.int_inv
  exact P.getItem_str hr hc (q _ _ (Ex.toks g) (.str _ _))

/-! ## slices -/
noncomputable def Slc (C : Cx) (a : D) (lo hi st : Option Int) (d : D) : Prop :=
  ∀ (A : Around) (hid : Addr → Prop) (s : Shared) (v : Value) (sl : Addr) (vl vu vs : Value) (Q E : Value → Shared → Prop),
    Rm C A 1 → Gd C s → Bd hid s → Rp hid s.heap v a → s.heap.IsSliceOf sl vl vu vs → IsPart vl lo → IsPart vu hi → IsPart vs st → (∀ v s', Ex C s s' → Rp hid s'.heap v d → Q v s') → wpAny (model C.prog C.w) A (getItem v (.ref sl)) Q E s

noncomputable def pickD (ds : List D) (lo hi st : Option Int) : List D :=
  (sliceRange (sliceBounds lo hi st ds.length).1 (sliceBounds lo hi st ds.length).2.1 (sliceBounds lo hi st ds.length).2.2).filterMap (ds[·]?)
theorem rps_pick {hid : Addr → Prop} {h : Heap} {vs : List Value} {ds : List D} (r : Rps hid h vs ds) : ∀ l : List Nat, Rps hid h (l.filterMap (vs[·]?)) (l.filterMap (ds[·]?))
  | [] => .nil
  | k :: l => by
    have ih := rps_pick r l
    rw [List.filterMap_cons, List.filterMap_cons]
    cases q : ds[k]? with
    | none =>
      have hk : vs[k]? = none := by rw [List.getElem?_eq_none_iff] at q ⊢; rw [r.length]; exact q
      rw [hk]; exact ih
    | some d =>
      obtain ⟨v, e, r'⟩ := r.get q
      rw [e]; exact .cons r' ih
theorem Rp.push_list {hid : Addr → Prop} {s : Shared} {vs : Array Value} {ds : List D} {n : Nat} (bd : Bd hid s) (r : Rps hid s.heap vs.toList ds) : Rp hid (s.heap.push { cls := .type "list", data := .seq vs n }) (.ref s.heap.objs.size) (.lst ds) :=
  .lst (fun q => (bd _ q).elim fun zz e => no_at e get_size rfl) (Heap.get?_push_size _ rfl) ⟨rfl, rfl, ⟨n, rfl⟩, rfl⟩ (r.mono fun a o k e zz => ⟨k, Heap.get?_push_of_some _ e⟩)
theorem Rp.push_tup {hid : Addr → Prop} {s : Shared} {vs : Array Value} {ds : List D} {n : Nat} (bd : Bd hid s) (r : Rps hid s.heap vs.toList ds) : Rp hid (s.heap.push { cls := .type "tuple", data := .seq vs n }) (.ref s.heap.objs.size) (.tup ds) :=
  .tup (fun q => (bd _ q).elim fun zz e => no_at e get_size rfl) (Heap.get?_push_size _ rfl) ⟨rfl, rfl, ⟨n, rfl⟩, rfl⟩ (r.mono fun a o k e zz => ⟨k, Heap.get?_push_of_some _ e⟩)
theorem slc_list {ds : List D} {lo hi st : Option Int} (h0 : st ≠ some 0) (hz : ds.length ≤ sizeLine) : Slc C (.lst ds) lo hi st (.lst (pickD ds lo hi st)) := by
  intro A hid s v sl vl vu vs Q E rm g bd r hs pl pu ps q
  obtain ⟨a, o, ws, rfl, n, e, q1, r1⟩ := r.lst_inv
  have hl := r1.length
  refine wpAny_getItem_list_slice (q1.isList (T := "list") e) hs pl pu ps h0 (q _ _ (Ex.push g _) (Rp.push_list bd ?_)) (by simpa [hl] using hz)
  have := rps_pick r1 (sliceRange (sliceBounds lo hi st ds.length).1 (sliceBounds lo hi st ds.length).2.1 (sliceBounds lo hi st ds.length).2.2)
  unfold slicePick pickD
  simpa [hl] using this
theorem slc_str {x : Str} {lo hi : Option Int} (hz : x.length ≤ sizeLine) : Slc C (.str x) lo hi none (.str (Txt.slice x lo hi)) := by
  intro A hid s v sl vl vu vs Q E rm g bd r hs pl pu ps q
  obtain ⟨t, rfl⟩ := r.str_inv
  cases ps
  have key : ∀ l u : Option (Int × Tok), vl = partValue l → vu = partValue u → lo = l.map (·.1) → hi = u.map (·.1) → wpAny (model C.prog C.w) A (getItem (.str x t) (.ref sl)) Q E s := by
    intro l u e1 e2 e3 e4
    subst e1 e2 e3 e4
    refine wpAny_getItem_str_slice (l := l) (u := u) (st := none) hs rfl ?_
    have : ∀ l u, (sliceMade x t l u none).post Q s ↔ (sliceMade x t l u none).post Q s := fun zz zz => Iff.rfl
    exact post_val_or_str ⟨Nat.le_trans (Txt.slice_le x _ _) hz, fun t' k => q _ _ (Ex.toks g) (.str _ _)⟩
  cases pl with
  | none => cases pu with
    | none => exact key none none rfl rfl rfl rfl
    | int j u => exact key none (some (j, u)) rfl rfl rfl rfl
  | int i t' => cases pu with
    | none => exact key (some (i, t')) none rfl rfl rfl rfl
    | int j u => exact key (some (i, t')) (some (j, u)) rfl rfl rfl rfl

/-! ## calls of built-ins -/
theorem call_len_lst {ds : List D} (h : (ds.length : Int) < 2 ^ 63) : Call C 0 (.builtin "len") [.lst ds] (.int ds.length) := by
  intro A hid s vs Q E rm g bd r q
  obtain ⟨v, rfl, rv⟩ := r.one
  obtain ⟨a, o, ws, rfl, n, e, q1, r1⟩ := rv.lst_inv
  have hl := r1.length
  have := call_len_list (prog := C.prog) (w := C.w) (A := A) (E := E) (s := s) (Q := Q) (q1.isList (T := "list") e) (by simpa [hl] using h) (q _ _ (Ex.toks g) (by simp only [List.size_toArray, hl]; exact .int _ _))
  exact this
theorem call_len_str {x : Str} (h : (x.length : Int) < 2 ^ 63) : Call C 0 (.builtin "len") [.str x] (.int x.length) := by
  intro A hid s vs Q E rm g bd r q
  obtain ⟨v, rfl, rv⟩ := r.one
  obtain ⟨t, rfl⟩ := rv.str_inv
  exact P.len_str (by lia) (q _ _ (Ex.toks g) (.int _ _))
theorem call_divmod {a b : Int} (hb : b ≠ 0) (hp : Builtin.divisionGoesByPylong a b = false) : Call C 0 (.builtin "divmod") [.int a, .int b] (.tup [.int (a.fdiv b), .int (a.fmod b)]) := by
  intro A hid s vs Q E rm g bd r q
  obtain ⟨v, w, rfl, rv, rw'⟩ := r.two
  obtain ⟨t, rfl⟩ := rv.int_inv
  obtain ⟨u, rfl⟩ := rw'.int_inv
  refine divmod_int hb (q _ _ (Ex.push g _) (Rp.push_tup bd ?_)) (.inl hp)
  exact .cons (.int _ _) (.cons (.int _ _) .nil)
theorem call_min {a b : Int} (h0' : C.hd = none := by assumption) : Call C 0 (.builtin "min") [.int a, .int b] (.int (if b < a then b else a)) := by
  intro A hid s vs Q E rm g bd r q
  obtain ⟨v, w, rfl, rv, rw'⟩ := r.two
  obtain ⟨t, rfl⟩ := rv.int_inv
  obtain ⟨u, rfl⟩ := rw'.int_inv
  refine min_two_ints (rm.h0 h0') fun h' tk k => q _ _ (Ex.of_keeps g k) ?_
  split <;> exact .int _ _
end
end Mine
/-! M5 -/
namespace Mine
open PySem PySem.W PySem.Spec PySem.Calls PyProof.Rows

section
variable {C : Cx} {F : Fx} {ρ ρ' : Store} {K K' : Fl → Store → Prop}

theorem ev_un {x : Expr} {op : UnaryOp} {p : Pos} {a d : D} (hx : Ev C F ρ x a) (h : St C 1 (fun vs => match vs with | [v] => unaryOp op v | _ => pure .none) [a] d) (hk : 1 ≤ F.k) : Ev C F ρ (.UnaryOp op x p) d := .mk fun W s Q E f q =>
  wpAny_UnaryOp (hx.go W s _ _ f fun v s₁ x r => h F.A W.hid s₁ [v] _ _ (f.rm.mono hk) x.gd (f.ex x).bd (.cons r .nil) fun v₃ s₃ z r₃ => q v₃ s₃ (x.trans z) r₃)
theorem un_neg {a : Int} : St C 1 (fun vs => match vs with | [v] => unaryOp .USub v | _ => pure .none) [.int a] (.int (-a)) := by
  intro A hid s vs Q E rm g bd r q
  obtain ⟨v, rfl, rv⟩ := r.one
  obtain ⟨t, rfl⟩ := rv.int_inv
  exact P.neg_int (q _ _ (Ex.toks g) (.int _ _))
theorem un_inv {a : Int} : St C 1 (fun vs => match vs with | [v] => unaryOp .Invert v | _ => pure .none) [.int a] (.int (Builtin.bitNot a)) := by
  intro A hid s vs Q E rm g bd r q
  obtain ⟨v, rfl, rv⟩ := r.one
  obtain ⟨t, rfl⟩ := rv.int_inv
  exact invert_int (q _ _ (Ex.toks g) (.int _ _))

/-! ## subscripts -/
theorem sub_ops (slice : Expr) (o i : Value) : ∃ ops, subscripted slice false o i = operate ops (getItem o i) := by
  cases slice with
  | Slice l u st p => cases st <;> exact ⟨_, rfl⟩
  | _ => exact ⟨_, rfl⟩
noncomputable def HasItem : D → Prop
  | .lst _ | .tup _ | .str _ => True
  | _ => False
theorem tail_of {A : Around} {E : Value → Shared → Prop} {s : Shared} {hid : Addr → Prop} {value slice : Expr} {o i : Value} {a : D} {Q : Value → Shared → Prop} (ha : HasItem a) (r : Rp hid s.heap o a) (hg : wpAny (model C.prog C.w) A (getItem o i) Q E s) :
    wpAny (model C.prog C.w) A (subscriptTail value slice o i) Q E s := by
  obtain ⟨ops, e⟩ := sub_ops slice o i
  cases a <;> first | exact ha.elim | skip
  · obtain ⟨t, rfl⟩ := r.str_inv
    exact tail_any (typeIs_str _ _ _) F.slot_str_getitem.lookup hg e
  · obtain ⟨b, ob, vs, rfl, n, e1, q1, r1⟩ := r.tup_inv
    exact tail_any (q1.isTup e1).typeIs slot_tuple_getitem.lookup hg e
  · obtain ⟨b, ob, vs, rfl, n, e1, q1, r1⟩ := r.lst_inv
    exact tail_any (q1.isList (T := "list") e1).typeIs slot_list_getitem.lookup hg e
theorem ev_sub {x i : Expr} {p : Pos} {a b d : D} (hx : Ev C F ρ x a) (hi : Ev C F ρ i b) (h : Itm C a b d) (ha : HasItem a) (hk : 1 ≤ F.k) : Ev C F ρ (.Subscript x i p) d := .mk fun W s Q E f q =>
  Subscript_ (hx.go W s _ _ f fun v s₁ x r₁ => hi.go W s₁ _ _ (f.ex x) fun v₂ s₂ y r₂ => tail_of ha (r₁.ex x.gd y)
    (h F.A W.hid s₂ [v, v₂] _ _ (f.rm.mono hk) y.gd ((f.ex x).ex y).bd (.cons (r₁.ex x.gd y) (.cons r₂ .nil)) fun v₃ s₃ z r₃ => q v₃ s₃ ((x.trans y).trans z) r₃))

/-- a part of a slice -/
inductive EvP (C : Cx) (F : Fx) (ρ : Store) : Option Expr → Option Int → Prop
  | none : EvP C F ρ none none
  | some {e : Expr} {i : Int} : Ev C F ρ e (.int i) → EvP C F ρ (some e) (some i)
theorem EvP.go {o : Option Expr} {lo : Option Int} (h : EvP C F ρ o lo) {W : Wt} {s : Shared} {Q : Value → Shared → Prop} {E : Value → Shared → Prop} (f : Frm C F W ρ s) (q : ∀ v s', Ex C s s' → IsPart v lo → Q v s') :
    wpAny (model C.prog C.w) F.A (evalPart o F.env) Q E s := by
  cases h with
  | none => exact wpAny_pure (q _ _ (Ex.refl f.gd) .none)
  | some h => exact h.go W s _ _ f fun v s' x r => by obtain ⟨t, rfl⟩ := r.int_inv; exact q _ _ x (.int _ _)
theorem slice_any {value : Expr} {l u st : Option Expr} {p pos : Pos} {a d : D} {lo hi sp : Option Int} {W : Wt} {s : Shared} {o : Value} {Q : Value → Shared → Prop} {E : Value → Shared → Prop} (f : Frm C F W ρ s) (r : Rp W.hid s.heap o a)
    (hl : EvP C F ρ l lo) (hu : EvP C F ρ u hi) (hs : EvP C F ρ st sp) (h : Slc C a lo hi sp d) (ha : HasItem a) (hk : 1 ≤ F.k) (q : ∀ v s', Ex C s s' → Rp W.hid s'.heap v d → Q v s') :
    wpAny (model C.prog C.w) F.A (eval (.Slice l u st p) F.env) (fun i s₂ => wpAny (model C.prog C.w) F.A (subscriptTail value (.Slice l u st p) o i) Q E s₂) E s :=
  wpAny_Slice (hl.go f fun vl s₁ x₁ p₁ => hu.go (f.ex x₁) fun vu s₂ x₂ p₂ => hs.go ((f.ex x₁).ex x₂) fun vs s₃ x₃ p₃ => by
    have x := (x₁.trans x₂).trans x₃
    have y : Ex C s₃ { s₃ with heap := s₃.heap.push { cls := .type "slice", data := .fields #[vl, vu, vs] } } := Ex.push x.gd _
    exact tail_of ha ((r.ex f.gd x).ex x.gd y) (h F.A W.hid _ o _ vl vu vs _ _ (f.rm.mono hk) y.gd ((f.ex x).ex y).bd ((r.ex f.gd x).ex x.gd y) (Heap.IsSliceOf.new _ _ _ _) p₁ p₂ p₃ fun v s' z r' => q v s' ((x.trans y).trans z) r'))
theorem ev_slice {x : Expr} {l u st : Option Expr} {p pos : Pos} {a d : D} {lo hi sp : Option Int} (hx : Ev C F ρ x a) (hl : EvP C F ρ l lo) (hu : EvP C F ρ u hi) (hs : EvP C F ρ st sp) (h : Slc C a lo hi sp d) (ha : HasItem a) (hk : 1 ≤ F.k) : Ev C F ρ (.Subscript x (.Slice l u st p) pos) d := .mk fun W s Q E f q =>
  Subscript_ (hx.go W s _ _ f fun v s₁ x r₁ => slice_any (pos := pos) (f.ex x) r₁ hl hu hs h ha hk fun v' s' y r' => q v' s' (x.trans y) r')

/-! ## displays -/
theorem evs_nil {pos : Pos} : Evs C F ρ pos [] [] := ⟨⟨fun x hx => (nomatch hx), fun zz => rfl⟩, fun W s Q E f q => Calls.spliced_nil (q _ _ (Ex.refl f.gd) .nil)⟩
theorem evs_cons {pos : Pos} {e : Expr} {es : List Expr} {d : D} {ds : List D} (h : Ev C F ρ e d) (hr : Evs C F ρ pos es ds) (he : backTo pos (starEach (e :: es) F.env) = (false, eval e F.env) :: backTo pos (starEach es F.env) := by rfl) : Evs C F ρ pos (e :: es) (d :: ds) :=
  ⟨⟨fun x hx => by rw [he] at hx; rcases List.mem_cons.mp hx with rfl | hx; rfl; exact hr.1.1 x hx, fun q => by rw [he] at q; cases q⟩, fun W s Q E f q => by
    rw [he]
    exact Calls.spliced_cons (h.go W s _ _ f fun v s₁ x r₁ => hr.2 W s₁ _ _ (f.ex x) fun vs s₂ y r₂ => q _ _ (x.trans y) (.cons (r₁.ex x.gd y) r₂))⟩
theorem ev_tuple {es : List Expr} {k : Nat} {p : Pos} {ds : List D} (h : Evs C F ρ p es ds) (hz : ds.length ≤ sizeLine := by decide) : Ev C F ρ (.Tuple es k p) (.tup ds) := .mk fun W s Q E f q =>
  Tuple_ (h.2 W s _ _ f fun vs s₁ x r => by
    have hl := r.length
    exact wpAny_newObj_type (q _ _ (x.trans (Ex.push x.gd _)) (Rp.push_tup (f.ex x).bd r)) (by show vs.toArray.size ≤ sizeLine; rw [List.size_toArray, hl]; exact hz))
theorem ev_list {es : List Expr} {p : Pos} {ds : List D} (h : Evs C F ρ p es ds) (hz : ds.length ≤ sizeLine := by decide) : Ev C F ρ (.List es p) (.lst ds) := .mk fun W s Q E f q =>
  List_ (h.2 W s _ _ f fun vs s₁ x r => by
    have hl := r.length
    exact wpAny_newObj_type (q _ _ (x.trans (Ex.push x.gd _)) (Rp.push_list (f.ex x).bd r)) (by show vs.toArray.size ≤ sizeLine; rw [List.size_toArray, hl]; exact hz))
theorem evnew_list {es : List Expr} {p : Pos} {ds : List D} (h : Evs C F ρ p es ds) (hz : ds.length ≤ sizeLine := by decide) : EvNew C F ρ (.List es p) ds := .mk fun W s Q E f q =>
  List_ (h.2 W s _ _ f fun vs s₁ x r => by
    have hl := r.length
    refine wpAny_newObj_type (q _ vs.toArray 0 _ (x.trans (Ex.push x.gd _)) ?_ (Heap.get?_push_size _ rfl) ((Rps.hide get_size r).mono fun a o k e zz => ⟨k, Heap.get?_push_of_some _ e⟩)) (by show vs.toArray.size ≤ sizeLine; rw [List.size_toArray, hl]; exact hz)
    cases q0 : s.heap.get? s₁.heap.objs.size with
    | none => rfl
    | some o => exact absurd (Bd.ex (hid := fun a => a = s₁.heap.objs.size) (fun a q1 => ⟨o, q1 ▸ q0⟩) x _ rfl) (fun ⟨o', e⟩ => no_at e get_size rfl))

/-! ## calls -/
theorem evs_any {pos : Pos} {es : List Expr} {ds : List D} (h : Evs C F ρ pos es ds) : (backTo pos (starEach es F.env)).any (·.1) = false := by
  rw [List.any_eq_false]
  intro x hx
  rw [h.1.1 x hx]; exact Bool.false_ne_true
theorem evs_args {pos : Pos} {es : List Expr} {ds : List D} {g : Value} (h : Evs C F ρ pos es ds) {W : Wt} {s : Shared} {Q : Args → Shared → Prop} {E : Value → Shared → Prop} (f : Frm C F W ρ s) (q : ∀ vs s', Ex C s s' → Rps W.hid s'.heap vs ds → Q ⟨vs, []⟩ s') :
    wpAny (model C.prog C.w) F.A (evalArgs g true (backTo pos (starEach es F.env)) []) Q E s := by
  have h1 := h.1
  have h2 := h.2
  cases e : backTo pos (starEach es F.env) with
  | nil =>
    have := h1.2 e
    subst this
    exact PySem.evalArgs_none (q [] s (Ex.refl f.gd) .nil)
  | cons x r =>
    obtain ⟨b, t⟩ := x
    have : b = false := h1.1 (b, t) (by rw [e]; exact .head _)
    subst this
    rw [e] at h2
    exact Calls.evalArgs_plain (h2 W s _ E f q)

/-- a call of a def of the module's -/
structure Fn (C : Cx) (x : Str) (a : Addr) (fd : FuncData) : Prop where
  mg : C.mg x = some (.ref a)
  at_ : ∃ o, C.gh.get? a = some o ∧ o.data = .func fd
theorem ev_call_fn {x : Str} {np pos : Pos} {es : List Expr} {ds : List D} {d : D} {a : Addr} {fd : FuncData} {k : Nat} (hf : Fn C x a fd) (h : Evs C F ρ pos es ds) (hc : Call C k (.ref a) ds d) (hk : k ≤ F.k) (hx : F.env.kindOf x = some .globalImplicit) (hd : (x == ("__debug__" : Str)) = false := by decide) :
    Ev C F ρ (.Call (.Name x np) es [] pos) d := .mk fun W s Q E f q =>
  let ⟨o, e, ed⟩ := hf.at_
  wpAny_Call_NameR (global_any f hx hf.mg (Calls.callWith_function (o := o) (fd := fd) (evs_args h f fun vs s' x r => by
    refine ⟨⟨x.gd.keep _ _ e, ed⟩, ?_⟩
    show wpAny _ _ (call (.ref a) ([] ++ vs) []) Q E s'
    rw [List.nil_append]
    exact hc F.A W.hid s' vs _ _ (f.rm.mono hk) x.gd (f.ex x).bd r fun v s'' y r' => q v s'' (x.trans y) r')) hd)
theorem ev_call_bi {x : Str} {id : String} {np pos : Pos} {es : List Expr} {ds : List D} {d : D} {k : Nat} (hm : C.mg x = none) (hb : bootBuiltins x = some (.builtin id)) (h : Evs C F ρ pos es ds) (hc : Call C k (.builtin id) ds d) (hk : k ≤ F.k) (hx : F.env.kindOf x = some .globalImplicit)
    (hn : x ≠ "__name__" := by decide) (hd : (x == ("__debug__" : Str)) = false := by decide) : Ev C F ρ (.Call (.Name x np) es [] pos) d := .mk fun W s Q E f q =>
  wpAny_Call_NameR (builtin_any f hx hm hb (Calls.callWith_builtin (evs_any h) (evs_args h f fun vs s' x r => by
    show wpAny _ _ (call (.builtin id) ([] ++ vs) []) Q E s'
    rw [List.nil_append]
    exact hc F.A W.hid s' vs _ _ (f.rm.mono hk) x.gd (f.ex x).bd r fun v s'' y r' => q v s'' (x.trans y) r')) hn hd)

/-- a call of a built-in method on data -/
noncomputable def TyOf : D → String
  | .int _ => "int"
  | .str _ => "str"
  | .bytes _ => "bytes"
  | .lst _ => "list"
  | .tup _ => "tuple"
  | _ => "?"
theorem rp_type {hid : Addr → Prop} {s : Shared} {v : Value} {a : D} {T : String} (r : Rp hid s.heap v a) (hT : TyOf a = T) (hn : T ≠ "?") : s.TypeIs v T ∧ ∀ b, v = .ref b → ∃ ob, s.heap.get? b = some ob ∧ ob.dict = none := by
  subst hT
  cases a <;> first | exact absurd rfl hn | skip
  · obtain ⟨t, rfl⟩ := r.int_inv; exact ⟨typeIs_int _ _ _, fun b e => by cases e⟩
  · obtain ⟨t, rfl⟩ := r.str_inv; exact ⟨typeIs_str _ _ _, fun b e => by cases e⟩
  · obtain ⟨t, rfl⟩ := r.bytes_inv; exact ⟨typeIs_bytes _ _ _, fun b e => by cases e⟩
  · obtain ⟨b, ob, vs, rfl, n, e1, q1, r1⟩ := r.tup_inv; exact ⟨⟨ob, e1, q1.1⟩, fun b' e => by cases e; exact ⟨ob, e1, q1.2.1⟩⟩
  · obtain ⟨b, ob, vs, rfl, n, e1, q1, r1⟩ := r.lst_inv; exact ⟨⟨ob, e1, q1.1⟩, fun b' e => by cases e; exact ⟨ob, e1, q1.2.1⟩⟩
theorem ev_meth {o : Expr} {name : Str} {apos pos : Pos} {es : List Expr} {a d : D} {ds : List D} {T id : String} {k : Nat} (ho : Ev C F ρ o a) (h : Evs C F ρ pos es ds) (hT : TyOf a = T) (hc : Call C k (.builtin id) (a :: ds) d) (hk : k ≤ F.k)
    (pa : PlainAttrs T) (slot : Slot T name id) (hty : typeOf (.builtin id) = pure (.type "method_descriptor")) (hn : T ≠ "?" := by decide)
    (hbase : attributeBase o name F.env (eval o F.env) = eval o F.env := by rfl)
    (hfew : ((backTo pos (starEach es F.env)).all (fun x => !x.1) && (backToKw pos (keywordEach [] F.env)).all (fun x => x.1.isSome)
      && decide (es.length + ([] : List Keyword).length + (if ([] : List Keyword).isEmpty then 0 else 1) < 30)) = true := by rfl)
    (hline : (apos.endLine == pos.line) = true := by rfl) : Ev C F ρ (.Call (.Attribute o name apos) es [] pos) d := .mk fun W s Q E f q =>
  wpAny_Call_method hbase hfew hline pa slot hty (ho.go W s _ _ f fun ov s₁ x r => by
    obtain ⟨t1, t2⟩ := rp_type r hT hn
    refine ⟨t1, t2, Calls.callWith_builtin (evs_any h) (evs_args h (f.ex x) fun vs s' y r' => ?_)⟩
    exact hc F.A W.hid s' (ov :: vs) _ _ (f.rm.mono hk) y.gd ((f.ex x).ex y).bd (.cons (r.ex x.gd y) r') fun v s'' z r'' => q v s'' ((x.trans y).trans z) r'')
end
end Mine
/-! M6 -/
namespace Mine
open PySem PySem.W PySem.Spec PySem.Calls PyProof.Rows

noncomputable abbrev Fx.on (F : Fx) (ps : List (Addr × Obj)) (se : List (Value × D)) : Fx := { F with pins := ps, seen := se }

theorem off_of_new {C : Cx} {s : Shared} {a : Addr} (g : Gd C s) (h : s.heap.get? a = none) : C.off a :=
  (off_or g a).elim id fun ⟨_, e⟩ => no_at e h rfl

section
variable {C : Cx} {F : Fx} {ρ ρ' : Store} {K K' : Fl → Store → Prop}

theorem Frm.pin {W : Wt} {s s₁ : Shared} {a : Addr} {o : Obj} {src : List (Value × D)} (f : Frm C F W ρ s) (x : Ex C s s₁) (h1 : s.heap.get? a = none) (h2 : s₁.heap.get? a = some o) (hc : NoCode o)
    (se : ∀ p ∈ src, Rp (fun b => W.hid b ∨ b = a) s₁.heap p.1 p.2) : Frm C (F.on ((a, o) :: F.pins) (src ++ F.seen)) { W with hid := fun b => W.hid b ∨ b = a } ρ s₁ :=
  have f₁ := f.hide x h1 ⟨o, h2⟩
  have hcl : ∀ y c, F.env.cells.lookup y = some c → c ≠ a := fun y c e1 q => (f.cells y c e1).elim fun zz e => no_at e.1 h1 q
  { f₁ with
    cfree := fun hcs y c e1 e2 => have q := f₁.cfree hcs y c e1 e2; ⟨q.1, q.2.1, q.2.2.1, allC (hcl y c e1) q.2.2.2⟩
    owns := fun y d e1 => (f.owns y d e1).imp fun zz q => ⟨q.1, Own.ex' f.gd x (q.2.keep (F' := F.on ((a, o) :: F.pins) (src ++ F.seen)) (W' := { W with hid := fun b => W.hid b ∨ b = a }) (fun b ob n e zz => ⟨fun q => q.elim n fun q => no_at e h1 q, e⟩) (fun b zz z h3 h4 h5 => ⟨fun zz e zz => e, .inl h3, h4, allC (fun q => z.elim fun zz e => no_at e.1 h1 q) h5⟩) rfl)⟩
    pins := allC ⟨h2, off_of_new f.gd h1, .inr rfl, fun q => (ns_at f.ns).elim fun zz e => no_at e h1 q.symm, f.fresh h1, hc⟩ f₁.pins
    pcell := allC hcl f₁.pcell
    pinj := List.nodup_cons.mpr ⟨fun q => (List.mem_map.mp q).elim fun p q => no_at (f.pins p q.1).1 h1 q.2, f.pinj⟩
    seen := fun p hp => (List.mem_append.mp hp).elim (se p) (f₁.seen p) }

theorem Frm.unpin {W : Wt} {s : Shared} {a : Addr} {o : Obj} {src : List (Value × D)} (f : Frm C (F.on ((a, o) :: F.pins) (src ++ F.seen)) W ρ s) : Frm C F W ρ s :=
  { f with
    cfree := fun hcs y c e1 e2 => have q := f.cfree hcs y c e1 e2; ⟨q.1, q.2.1, q.2.2.1, fun p hp => q.2.2.2 p (.tail _ hp)⟩
    owns := fun y d e1 => (f.owns y d e1).imp fun zz q => ⟨q.1, q.2.keep (fun b ob n e zz => ⟨n, e⟩) (fun b zz zz h3 h4 h5 => ⟨fun zz e zz => e, h3, h4, fun p hp => h5 p (.tail _ hp)⟩) rfl⟩
    pins := fun p hp => f.pins p (.tail _ hp)
    pcell := fun p hp => f.pcell p (.tail _ hp)
    pinj := (List.nodup_cons.mp f.pinj).2
    seen := fun p hp => f.seen p (List.mem_append_right _ hp) }

/-- a pinned object is none of the other pins -/
theorem Frm.pin_ne {W : Wt} {s : Shared} {a : Addr} {o : Obj} {se : List (Value × D)} (f : Frm C (F.on ((a, o) :: F.pins) se) W ρ s) : ∀ p ∈ F.pins, p.1 ≠ a :=
  fun p hp q => (List.nodup_cons.mp f.pinj).1 (List.mem_map.mpr ⟨p, hp, q⟩)

/-- the iterator has moved -/
theorem Frm.repin {W : Wt} {s s' : Shared} {a : Addr} {o o' : Obj} {se : List (Value × D)} (f : Frm C (F.on ((a, o) :: F.pins) se) W ρ s) (g' : Gd C s') (hs : ∀ b ob, b ≠ a → C.off b → s.heap.get? b = some ob → s'.heap.get? b = some ob)
    (e' : s'.heap.get? a = some o') (hc : NoCode o') (hg : ∀ (i : Nat) (x : GenState), s.gens[i]? = some x → s'.gens[i]? = some x) : Frm C (F.on ((a, o') :: F.pins) se) W ρ s' :=
  have k := f.pins (a, o) (.head _)
  have kd : ∀ b, b ≠ a → Kd s.heap s'.heap b := fun b h ob e n => hs b ob h (f.gd.off e n) e
  have kp : Kp W.hid s.heap W.hid s'.heap := fun b ob n e hcl => ⟨n, hs b ob (fun q => n (q ▸ k.2.2.1)) (f.gd.offq e hcl) e⟩
  { f with
    gd := g'
    ns := ns_keep f.ns (kd _ fun q => k.2.2.2.1 q.symm)
    cells := fun y c e1 => cell_keep (f.cells y c e1) (kd _ (f.pcell (a, o) (.head _) y c e1))
    vals := fun y d e1 => (f.vals y d e1).imp fun zz q => ⟨q.1, q.2.mono kp⟩
    sc := fun b ob n e => hs b ob (fun q => no_at e k.2.2.2.2.1 q) n (f.sc b ob n e)
    bd := fun b q => by
      by_cases hb : b = a
      · exact ⟨o', hb ▸ e'⟩
      · obtain ⟨ob, e⟩ := f.bd b q
        exact (off_or g' b).elim (fun h => ⟨ob, hs b ob hb h e⟩) id
    cfree := fun hcs y c e1 e2 => have q := f.cfree hcs y c e1 e2; ⟨q.1, q.2.1, q.2.2.1, allC (q.2.2.2 (a, o) (.head _)) fun p hp => q.2.2.2 p (.tail _ hp)⟩
    owns := fun y d e1 => (f.owns y d e1).imp fun zz q => ⟨q.1, q.2.keep kp (fun b zz zz h3 h4 h5 => ⟨kd b (h5 (a, o) (.head _)), h3, h4, allC (h5 (a, o) (.head _)) fun p hp => h5 p (.tail _ hp)⟩) rfl⟩
    pins := allC ⟨e', k.2.1, k.2.2.1, k.2.2.2.1, k.2.2.2.2.1, hc⟩ fun p hp => have q := f.pins p (.tail _ hp); ⟨hs _ _ (f.pin_ne p hp) q.2.1 q.1, q.2⟩
    pcell := allC (f.pcell (a, o) (.head _)) fun p hp => f.pcell p (.tail _ hp)
    pinj := f.pinj
    seen := fun p hp => (f.seen p hp).mono kp
    gens := fun i x e => hg i x (f.gens i x e) }

/-- the iterator is let go -/
theorem Frm.drop {W : Wt} {s s' : Shared} {a : Addr} {o : Obj} {src : List (Value × D)} (f : Frm C (F.on ((a, o) :: F.pins) (src ++ F.seen)) W ρ s) (g' : Gd C s') (hs : ∀ b ob, b ≠ a → C.off b → s.heap.get? b = some ob → s'.heap.get? b = some ob)
    (hg : ∀ (i : Nat) (x : GenState), s.gens[i]? = some x → s'.gens[i]? = some x) : Frm C F { W with hid := fun b => W.hid b ∧ b ≠ a } ρ s' :=
  have k := f.pins (a, o) (.head _)
  have kd : ∀ b, b ≠ a → Kd s.heap s'.heap b := fun b h ob e n => hs b ob h (f.gd.off e n) e
  have kp : Kp W.hid s.heap (fun b => W.hid b ∧ b ≠ a) s'.heap := fun b ob n e hcl => ⟨fun q => n q.1, hs b ob (fun q => n (q ▸ k.2.2.1)) (f.gd.offq e hcl) e⟩
  { f with
    gd := g'
    ns := ns_keep f.ns (kd _ fun q => k.2.2.2.1 q.symm)
    cells := fun y c e1 => cell_keep (f.cells y c e1) (kd _ (f.pcell (a, o) (.head _) y c e1))
    vals := fun y d e1 => (f.vals y d e1).imp fun zz q => ⟨q.1, q.2.mono kp⟩
    sc := fun b ob n e => hs b ob (fun q => no_at e k.2.2.2.2.1 q) n (f.sc b ob n e)
    hL := ⟨f.hL, fun q => k.2.2.2.1 q.symm⟩
    hH := fun b q => ⟨f.hH b q, fun z => (f.Hb b q).elim fun zz e => no_at e k.2.2.2.2.1 z⟩
    bd := fun b q => (f.bd b q.1).elim fun ob e => (off_or g' b).elim (fun h => ⟨ob, hs b ob q.2 h e⟩) id
    cfree := fun hcs y c e1 e2 => have q := f.cfree hcs y c e1 e2; ⟨q.1, q.2.1, ⟨q.2.2.1, q.2.2.2 (a, o) (.head _)⟩, fun p hp => q.2.2.2 p (.tail _ hp)⟩
    owns := fun y d e1 => (f.owns y d e1).imp fun zz q => ⟨q.1, q.2.keep kp (fun b zz zz h3 h4 h5 => ⟨kd b (h5 (a, o) (.head _)), ⟨h3, h5 (a, o) (.head _)⟩, h4, fun p hp => h5 p (.tail _ hp)⟩) rfl⟩
    pins := fun p hp => have q := f.pins p (.tail _ hp); ⟨hs _ _ (f.pin_ne p hp) q.2.1 q.1, q.2.1, ⟨q.2.2.1, f.pin_ne p hp⟩, q.2.2.2⟩
    pcell := fun p hp => f.pcell p (.tail _ hp)
    pinj := (List.nodup_cons.mp f.pinj).2
    seen := fun p hp => (f.seen p (List.mem_append_right _ hp)).mono kp
    gens := fun i x e => hg i x (f.gens i x e) }

/-! ## iterators -/
structure Iter (C : Cx) (src : List (Value × D)) where
  P : Obj → List D → Prop
  code : ∀ o r, P o r → NoCode o
  done : ∀ (A : Around) (hid : Addr → Prop) (s : Shared) (it : Addr) (o : Obj) (Q : Option Value → Shared → Prop) (E : Value → Shared → Prop), Rm C A 1 → Gd C s → Bd hid s → (∀ p ∈ src, Rp hid s.heap p.1 p.2) → hid it → C.off it → C.gh.get? it = none → s.heap.get? it = some o → P o [] →
    (∀ s', Gd C s' → (∀ b ob, b ≠ it → C.off b → s.heap.get? b = some ob → s'.heap.get? b = some ob) → (∀ (i : Nat) (x : GenState), s.gens[i]? = some x → s'.gens[i]? = some x) → Q none s') → wpAny (model C.prog C.w) A (pyNext (.ref it)) Q E s
  more : ∀ (A : Around) (hid : Addr → Prop) (s : Shared) (it : Addr) (o : Obj) (d : D) (r : List D) (Q : Option Value → Shared → Prop) (E : Value → Shared → Prop), Rm C A 1 → Gd C s → Bd hid s → (∀ p ∈ src, Rp hid s.heap p.1 p.2) → hid it → C.off it → C.gh.get? it = none → s.heap.get? it = some o → P o (d :: r) →
    (∀ v s' o', Gd C s' → (∀ b ob, b ≠ it → C.off b → s.heap.get? b = some ob → s'.heap.get? b = some ob) → s'.heap.get? it = some o' → P o' r → (∀ (i : Nat) (x : GenState), s.gens[i]? = some x → s'.gens[i]? = some x) → Rp hid s'.heap v d → Q (some v) s') → wpAny (model C.prog C.w) A (pyNext (.ref it)) Q E s
  go : ∀ (A : Around) (s : Shared) (it : Addr) (o : Obj) (r : List D) (tg : Expr) (v : Value) (Q : Unit → Shared → Prop) (E : Value → Shared → Prop), s.heap.get? it = some o → P o r → Q () s → wpAny (model C.prog C.w) A (letOwnedTupleGo tg (.ref it) v) Q E s

/-- the expression's iterator gives ds -/
structure EvIt (C : Cx) (F : Fx) (ρ : Store) (e : Expr) (ds : List D) : Prop where
  go : ∀ (W : Wt) (s : Shared) (Q : Value → Shared → Prop) (E : Value → Shared → Prop), Frm C F W ρ s →
    (∀ (src : List (Value × D)) (I : Iter C src) it o s', Ex C s s' → s.heap.get? it = none → s'.heap.get? it = some o → I.P o ds → (∀ p ∈ src, Rp (fun b => W.hid b ∨ b = it) s'.heap p.1 p.2) → Q (.ref it) s') →
    wpAny (model C.prog C.w) F.A (eval e F.env) (fun x s₁ => wpAny (model C.prog C.w) F.A (pyIter x) Q E s₁) E s

/-- a target takes a datum -/
structure As (C : Cx) (F : Fx) (tg : Expr) (d : D) (ρ ρ' : Store) : Prop where
  go : ∀ (W : Wt) (s : Shared) (v : Value) (Q : Unit → Shared → Prop) (E : Value → Shared → Prop), Frm C F W ρ s → Rp W.hid s.heap v d → (∀ W' s', Frm C F W' ρ' s' → (∀ w e, Rp W.hid s.heap w e → Rp W'.hid s'.heap w e) → Q () s') → wpAny (model C.prog C.w) F.A (assign tg F.env v) Q E s

theorem as_name {x : Str} {p : Pos} {d : D} (hl : F.env.kindOf x = some .local) : As C F (.Name x p) d ρ ((x, .val d) :: ρ) := .mk fun W s v Q E f r q =>
  wpAny_assign_Name (store_val f hl r fun W' s' f' hh k => q W' s' f' fun w e r => by rw [hh]; exact k w e r)

/-- between two turns of a for -/
inductive FTurn (C : Cx) (F : Fx) {src : List (Value × D)} (It : Iter C src) (it : Addr) (I : List D → Store → Prop) (n : Nat) (s : Shared) : Prop
  | mk (W : Wt) (ρ : Store) (o : Obj) (r : List D) (hn : n = r.length) (f : Frm C (F.on ((it, o) :: F.pins) (src ++ F.seen)) W ρ s) (hp : It.P o r) (hI : I r ρ)
theorem w1_for {iter tg : Expr} {body : List Stmt} {p : Pos} {ds : List D} (he : EvIt C F ρ iter ds) (I : List D → Store → Prop) (h0 : I ds ρ)
    (turn : ∀ ps se d r ρ', I (d :: r) ρ' → ∃ ρ'', As C (F.on ps se) tg d ρ' ρ'' ∧ Ws C (F.on ps se) ρ'' body (fun fl ρ₃ => match fl with | .next | .cont => I r ρ₃ | .brk => K .next ρ₃ | .ret d => K (.ret d) ρ₃))
    (done : ∀ ρ', I [] ρ' → K .next ρ') (hk : 1 ≤ F.k) (hs : ∀ x, foldedSetIterable iter F.env x = pure x := by intro _; rfl) : W1 C F ρ (.For tg iter body [] p) K := .mk fun W s f =>
  wpAny_For (hs := hs) (he.go W s _ _ f fun src It it o s₁ x h1 h2 hp se => by
    have f₁ := f.pin x h1 h2 (It.code _ _ hp) se
    have hgh : C.gh.get? it = none := f.free (f.fresh h1)
    refine codeAny_forLoop_any (I := FTurn C F It it I) ?_ ds.length (.mk _ ρ o ds rfl f₁ hp h0)
    intro n s₂ hT
    refine encl fun Go ret => ?_
    obtain ⟨W₂, ρ₂, o₂, r, hn, f₂, hp₂, hI⟩ := hT
    have k := f₂.pins (it, o₂) (.head _)
    have hse : ∀ p ∈ src, Rp W₂.hid s₂.heap p.1 p.2 := fun p hp => f₂.seen p (List.mem_append_left _ hp)
    cases r with
    | nil =>
      exact ret (It.done F.A W₂.hid s₂ it o₂ _ _ (f₂.rm.mono hk) f₂.gd f₂.bd hse k.2.2.1 k.2.1 hgh k.1 hp₂ fun s₃ g₃ hs₃ hg₃ => wpAny_execs_nil ⟨_, ρ₂, .next, f₂.drop g₃ hs₃ hg₃, .next, done _ hI⟩)
    | cons d r =>
      refine ret (It.more F.A W₂.hid s₂ it o₂ d r _ _ (f₂.rm.mono hk) f₂.gd f₂.bd hse k.2.2.1 k.2.1 hgh k.1 hp₂ fun v s₃ o₃ g₃ hs₃ e₃ hp₃ hg₃ rv => It.go F.A s₃ it o₃ r tg v _ _ e₃ hp₃ ?_)
      refine (turn ((it, o₃) :: F.pins) (src ++ F.seen) d r ρ₂ hI).elim fun ρ'' h => ?_
      refine h.1.go W₂ s₃ v _ _ (f₂.repin g₃ hs₃ e₃ (It.code _ _ hp₃) hg₃) rv fun W₄ s₄ f₄ zz => wpAny_mono (h.2.go W₄ s₄ f₄) (fun fl s₅ he => ?_) fun zz zz x => x.elim
      obtain ⟨W₅, ρ₅, fl', f₅, rf, hk'⟩ := he
      have nx : I r ρ₅ → ∃ m, m < n ∧ FTurn C F It it I m s₅ := fun hk' => ⟨r.length, by rw [hn]; exact Nat.lt_succ_self _, .mk W₅ ρ₅ o₃ r rfl f₅ hp₃ hk'⟩
      cases rf with
      | next => exact nx hk'
      | cont => exact nx hk'
      | brk => exact ⟨W₅, ρ₅, .next, f₅.unpin, .next, hk'⟩
      | ret rr => exact ⟨W₅, ρ₅, _, f₅.unpin, .ret rr, hk'⟩)

/-- the end of a loop's body that neither breaks nor returns -/
noncomputable abbrev Go (P : Store → Prop) : Fl → Store → Prop := fun fl ρ => match fl with | .next | .cont => P ρ | _ => False
/-- for, over what a list's items are made of -/
theorem ws_forM {α : Type} {iter tg : Expr} {body rest : List Stmt} {p : Pos} {xs : List α} (g : α → D) (I : List α → Store → Prop) (he : EvIt C F ρ iter (xs.map g)) (h0 : I xs ρ)
    (turn : ∀ ps se a r ρ', I (a :: r) ρ' → ∃ ρ'', As C (F.on ps se) tg (g a) ρ' ρ'' ∧ Ws C (F.on ps se) ρ'' body (Go (I r))) (done : ∀ ρ', I [] ρ' → Ws C F ρ' rest K)
    (hk : 1 ≤ F.k) (hs : ∀ x, foldedSetIterable iter F.env x = pure x := by intro _; rfl) : Ws C F ρ (.For tg iter body [] p :: rest) K := by
  refine ws_cons (w1_for he (fun r ρ' => ∃ l, r = l.map g ∧ I l ρ') ⟨xs, rfl, h0⟩ (fun ps se d r ρ' h => ?_) (fun ρ' h => ?_) hk hs)
  · refine encl fun Go ret => ?_
    obtain ⟨a, l, e1, e2, h⟩ : ∃ a l, d = g a ∧ r = l.map g ∧ I (a :: l) ρ' := by
      obtain ⟨l, e, h⟩ := h
      cases l with
      | nil => cases e
      | cons a l => exact ⟨a, l, (List.cons.inj e).1, (List.cons.inj e).2, h⟩
    obtain ⟨ρ'', ha, hb⟩ := turn ps se a l ρ' h
    refine ret ⟨ρ'', e1 ▸ ha, ws_mono hb fun fl ρ₃ k => ?_⟩
    cases fl with
    | next => exact ⟨l, e2, k⟩
    | cont => exact ⟨l, e2, k⟩
    | brk => exact k.elim
    | ret _ => exact k.elim
  · obtain ⟨l, e, h⟩ := h
    exact done ρ' (List.map_eq_nil_iff.mp e.symm ▸ h)

/-- while: by a store's word and a measure -/
theorem w1_while {test : Expr} {body : List Stmt} {p : Pos} (I : Nat → Store → Prop) (n : Nat) (h0 : I n ρ)
    (turn : ∀ n ρ', I n ρ' → ∃ b, Ts C F ρ' test b ∧ (b = true → Ws C F ρ' body (fun fl ρ₃ => match fl with | .next | .cont => ∃ m, m < n ∧ I m ρ₃ | .brk => K .next ρ₃ | .ret d => K (.ret d) ρ₃)) ∧ (b = false → K .next ρ')) :
    W1 C F ρ (.While test body [] p) K := .mk fun W s f =>
  wpAny_While (by
    refine codeAny_whileLoop (I := fun n s => ∃ W ρ', Frm C F W ρ' s ∧ I n ρ') ?_ n ⟨W, ρ, f, h0⟩
    intro n s₂ hT
    refine encl fun Go ret => ?_
    obtain ⟨W₂, ρ₂, f₂, hI⟩ := hT
    obtain ⟨b, ht, hb, hd⟩ := turn n ρ₂ hI
    refine ret (ht.go W₂ s₂ _ _ f₂ fun s₃ x => ?_)
    have f₃ := f₂.ex x
    cases b with
    | false => exact if_neg Bool.false_ne_true ▸ wpAny_execs_nil ⟨W₂, ρ₂, .next, f₃, .next, hd rfl⟩
    | true =>
      rw [if_pos rfl]
      refine wpAny_mono ((hb rfl).go W₂ s₃ f₃) (fun fl s₅ he => ?_) fun zz zz x => x.elim
      obtain ⟨W₅, ρ₅, fl', f₅, rf, hk'⟩ := he
      have nx : (∃ m, m < n ∧ I m ρ₅) → ∃ m, m < n ∧ ∃ W ρ', Frm C F W ρ' s₅ ∧ I m ρ' := fun h => h.elim fun m h => ⟨m, h.1, W₅, ρ₅, f₅, h.2⟩
      cases rf with
      | next => exact nx hk'
      | cont => exact nx hk'
      | brk => exact ⟨W₅, ρ₅, .next, f₅, .next, hk'⟩
      | ret rr => exact ⟨W₅, ρ₅, _, f₅, .ret rr, hk'⟩)

theorem w1_if {test : Expr} {body orelse : List Stmt} {p : Pos} {b : Bool} (ht : Ts C F ρ test b) (h1 : b = true → Ws C F ρ body K) (h2 : b = false → Ws C F ρ orelse K) : W1 C F ρ (.If test body orelse p) K := .mk fun W s f =>
  wpAny_If (ht.go W s _ _ f fun s' x => by
    cases b with
    | true => rw [if_pos rfl]; exact (h1 rfl).go W s' (f.ex x)
    | false => rw [if_neg Bool.false_ne_true]; exact (h2 rfl).go W s' (f.ex x))
theorem w1_ret {e : Expr} {p : Pos} {d : D} (he : Ev C F ρ e d) (h : K (.ret d) ρ) : W1 C F ρ (.Return (some e) p) K := .mk fun W s f =>
  wpAny_Return_some (he.go W s _ _ f fun v s' x r => ⟨W, ρ, _, f.ex x, .ret r, h⟩)
theorem w1_aug {x : Str} {p' p : Pos} {op : Operator} {e : Expr} {a b d : D} (ha : ρ.lookup x = some (.val a)) (he : Ev C F ρ e b) (ho : Iop C op a b d) (h : K .next ((x, .val d) :: ρ)) (hl : F.env.kindOf x = some .local) (hk : 1 ≤ F.k) :
    W1 C F ρ (.AugAssign (.Name x p') op e p) K := .mk fun W s f => by
  obtain ⟨v, ev, rv⟩ := f.vals x a ha
  rw [Wt.get_of_local hl] at ev
  exact wpAny_AugAssign_Name (wpAny_loadName_local f.kind hl f.ns ev (he.go W s _ _ f fun v₂ s₂ x₂ r₂ =>
    ho F.A W.hid s₂ [v, v₂] _ _ (f.rm.mono hk) x₂.gd (f.ex x₂).bd (.cons (rv.ex f.gd x₂) (.cons r₂ .nil)) fun v₃ s₃ x₃ r₃ =>
      store_val ((f.ex x₂).ex x₃) hl r₃ fun W' s' f' zz zz => ⟨W', _, _, f', .next, h⟩))

/-! ## tests -/
theorem ts_not {x : Expr} {p : Pos} {b : Bool} (h : Ts C F ρ x b) : Ts C F ρ (.UnaryOp .Not x p) (!b) := .mk fun W s Q E f q => wpAny_isTrue_Not (h.go W s _ _ f fun s' x => q s' x)
noncomputable def truth : D → Bool
  | .bool b => b
  | .int i => i != 0
  | .str x => (x.length : Int) != 0
  | .lst ds => !ds.isEmpty
  | .none => false
  | _ => true
noncomputable def tfits : D → Prop
  | .bool _ | .int _ | .none => True
  | .str x => (x.length : Int) < 2 ^ 63
  | .lst ds => (ds.length : Int) < 2 ^ 63
  | _ => False
theorem ts_val {e : Expr} {d : D} {b : Bool} (h : Ev C F ρ e d) (hb : truth d = b) (hd : tfits d)
    (he : ∀ whole, isTrue e F.env whole = (do let v ← whole; standAt e.pos; holding [v] (truthy v)) := by intro _; rfl) : Ts C F ρ e b := .mk fun W s Q E f q => by
  subst hb
  refine wpAny_isTrue_value (h.go W s _ _ f fun v s' x r => ?_) (he _)
  cases d with
  | bytes _ => exact hd.elim
  | tup _ => exact hd.elim
  | ptr _ => exact hd.elim
  | none => rw [r.none_inv]; exact truthy_none (q s' x)
  | bool b => rw [r.bool_inv]; exact wpAny_truthy_bool (q s' x)
  | int i => obtain ⟨t, rfl⟩ := r.int_inv; exact P.truthy_int (q s' x)
  | str y => obtain ⟨t, rfl⟩ := r.str_inv; exact P.truthy_str (by have : (_ : Int) < 2 ^ 63 := hd; lia) (q _ (x.trans (Ex.toks x.gd)))
  | lst ds =>
    obtain ⟨a, o, vs, rfl, n, e1, q1, r1⟩ := r.lst_inv
    have hl := r1.length
    refine wpAny_truthy_list (q1.isList (T := "list") e1) (by rw [List.size_toArray, hl]; exact hd) ?_
    have e : (!vs.toArray.isEmpty) = truth (.lst ds) := by
      show (!vs.toArray.isEmpty) = !List.isEmpty ds
      rw [List.isEmpty_toArray]
      cases vs <;> cases r1 <;> rfl
    rw [e]; exact q _ (x.trans (Ex.toks x.gd))
inductive TsAll (C : Cx) (F : Fx) (ρ : Store) : BoolOp → List Expr → Bool → Prop
  | and_nil : TsAll C F ρ .And [] true
  | or_nil : TsAll C F ρ .Or [] false
  | and_cons {e : Expr} {r : List Expr} {b c : Bool} : Ts C F ρ e b → (b = true → TsAll C F ρ .And r c) → (b = false → c = false) → TsAll C F ρ .And (e :: r) c
  | or_cons {e : Expr} {r : List Expr} {b c : Bool} : Ts C F ρ e b → (b = false → TsAll C F ρ .Or r c) → (b = true → c = true) → TsAll C F ρ .Or (e :: r) c
end
end Mine
/-! M7 -/
namespace Mine
open PySem PySem.W PySem.Spec PySem.Calls PyProof.Rows

section
variable {C : Cx} {F : Fx} {ρ ρ' ρ'' : Store} {K K' : Fl → Store → Prop}

theorem ts_all {op : BoolOp} {vs : List Expr} {b : Bool} (h : TsAll C F ρ op vs b) : ∀ (W : Wt) (s : Shared) (Q : Bool → Shared → Prop) (E : Value → Shared → Prop), Frm C F W ρ s → (∀ s', Ex C s s' → Q b s') → wpAny (model C.prog C.w) F.A (allTrue op vs F.env) Q E s := by
  induction h with
  | and_nil => exact fun W s Q E f q => wpAny_allTrue_And_nil (q s (Ex.refl f.gd))
  | or_nil => exact fun W s Q E f q => wpAny_allTrue_Or_nil (q s (Ex.refl f.gd))
  | @and_cons e r b c h1 h2 h3 ih =>
    exact fun W s Q E f q => wpAny_allTrue_And_cons (h1.go W s _ _ f fun s' x => by
      cases b with
      | true => rw [if_pos rfl]; exact ih rfl W s' Q E (f.ex x) fun s'' y => q s'' (x.trans y)
      | false => rw [if_neg Bool.false_ne_true, ← h3 rfl]; exact q s' x)
  | @or_cons e r b c h1 h2 h3 ih =>
    exact fun W s Q E f q => wpAny_allTrue_Or_cons (h1.go W s _ _ f fun s' x => by
      cases b with
      | false => rw [if_neg Bool.false_ne_true]; exact ih rfl W s' Q E (f.ex x) fun s'' y => q s'' (x.trans y)
      | true => rw [if_pos rfl, ← h3 rfl]; exact q s' x)
theorem ts_bool {op : BoolOp} {vs : List Expr} {p : Pos} {b : Bool} (h : TsAll C F ρ op vs b) : Ts C F ρ (.BoolOp op vs p) b := .mk fun W s Q E f q => wpAny_isTrue_BoolOp (ts_all h W s Q E f q)
theorem ev_if {t x y : Expr} {p : Pos} {b : Bool} {d : D} (ht : Ts C F ρ t b) (h1 : b = true → Ev C F ρ x d) (h2 : b = false → Ev C F ρ y d) : Ev C F ρ (.IfExp t x y p) d := .mk fun W s Q E f q =>
  wpAny_IfExp (ht.go W s _ _ f fun s' x => by
    cases b with
    | true => rw [if_pos rfl]; exact (h1 rfl).go W s' Q E (f.ex x) fun v s'' y r => q v s'' (x.trans y) r
    | false => rw [if_neg Bool.false_ne_true]; exact (h2 rfl).go W s' Q E (f.ex x) fun v s'' y r => q v s'' (x.trans y) r)

/-! ## targets -/
inductive AsL (C : Cx) (F : Fx) : List Expr → List D → Store → Store → Prop
  | nil {ρ : Store} : AsL C F [] [] ρ ρ
  | cons {t : Expr} {ts : List Expr} {d : D} {ds : List D} {ρ ρ' ρ'' : Store} : As C F t d ρ ρ' → AsL C F ts ds ρ' ρ'' → assignEach (t :: ts) F.env = (false, assign t F.env) :: assignEach ts F.env → AsL C F (t :: ts) (d :: ds) ρ ρ''
theorem AsL.shape {ts : List Expr} {ds : List D} (h : AsL C F ts ds ρ ρ') : (assignEach ts F.env).length = ds.length ∧ (assignEach ts F.env).findIdx? (·.1) = none := by
  induction h with
  | nil => exact ⟨rfl, rfl⟩
  | cons _ _ e ih => rw [e]; exact ⟨by simp [ih.1], by simp [List.findIdx?_cons, ih.2]⟩
theorem AsL.go {ts : List Expr} {ds : List D} (h : AsL C F ts ds ρ ρ') : ∀ {W : Wt} {s : Shared} {vs : List Value} {Q : Unit → Shared → Prop} {E : Value → Shared → Prop}, Frm C F W ρ s → Rps W.hid s.heap vs ds → (∀ W' s', Frm C F W' ρ' s' → (∀ w e, Rp W.hid s.heap w e → Rp W'.hid s'.heap w e) → Q () s') →
    wpAny (model C.prog C.w) F.A (assignInOrder ((assignEach ts F.env).map (·.2)) vs) Q E s := by
  induction h with
  | nil => intro W s vs Q E f r q; cases r; exact assignInOrder_nil (q W s f fun zz zz r => r)
  | cons h1 h2 e ih =>
    intro W s vs Q E f r q
    cases r with
    | cons a r =>
      rw [e]
      refine assignInOrder_cons (h1.go W s _ _ _ f a fun W' s' f' k => ?_)
      exact ih f' (r.map k) fun W'' s'' f'' k' => q W'' s'' f'' fun w e r => k' w e (k w e r)
theorem as_tuple {ts : List Expr} {k : Nat} {p : Pos} {ds : List D} (h : AsL C F ts ds ρ ρ') (h0' : C.hd = none := by assumption) : As C F (.Tuple ts k p) (.tup ds) ρ ρ' := .mk fun W s v Q E f r q => by
  obtain ⟨a, o, vs, rfl, n, e, q1, r1⟩ := r.tup_inv
  have hl := r1.length
  refine wpAny_assign_Tuple (f.rm.h0 h0') (q1.isTup e) (by rw [h.shape.1, List.size_toArray, hl]) h.shape.2 fun h' hx => ?_
  have x : Ex C s { s with heap := h' } := Ex.of_keeps f.gd fun b o e => hx b o (fun q => no_at e get_size q) e
  exact h.go (f.ex x) (r1.ex f.gd x) fun W' s' f' k' => q W' s' f' fun w e r => k' w e (r.ex f.gd x)

/-! ## iterators -/
theorem keep_same {C : Cx} {s : Shared} {h' : Heap} {it : Addr} (hs : Heap.SameBut it s.heap h') : ∀ b ob, b ≠ it → C.off b → s.heap.get? b = some ob → h'.get? b = some ob := fun b ob n zz e => (hs.2 b n).trans e

theorem go_of {A : Around} {s : Shared} {it : Addr} {o : Obj} {T : String} {tg : Expr} {v : Value} {Q : Unit → Shared → Prop} {E : Value → Shared → Prop} (e : s.heap.get? it = some o) (hc : o.cls = .type T)
    (hT : (["enumerate", "zip", "dict_itemiterator", "dict_reverseitemiterator", "odict_iterator", "itertools.zip_longest", "itertools.pairwise"] : List String).contains T = false) (q : Q () s) :
    wpAny (model C.prog C.w) A (letOwnedTupleGo tg (.ref it) v) Q E s := by
  have key : ∀ a : Addr, wpAny (model C.prog C.w) A (do
      let o ← load it
      match o.cls, o.data with
      | .type n, .fields vs =>
        if ["enumerate", "zip", "dict_itemiterator", "dict_reverseitemiterator", "odict_iterator", "itertools.zip_longest", "itertools.pairwise"].contains n && vs[0]? == some (rawInt a) then
          rule "for.unpacks-the-owned-tuple"
          updateField it 0 .none
      | _, _ => pure ()) Q E s := by
    intro a
    refine wpAny_bind (wpAny_load e ?_)
    rw [hc]
    cases o.data <;> first | exact wpAny_pure q | skip
    dsimp only
    rw [hT, Bool.false_and, if_neg Bool.false_ne_true]
    exact wpAny_pure q
  have both : ∀ a b, wpAny (model C.prog C.w) A (letOwnedTupleGo (.List a b) (.ref it) v) Q E s := fun a b => by
    cases v with
    | ref x => exact key x
    | _ => exact wpAny_pure q
  cases tg with
  | Tuple a b c => exact both a c
  | List a b => exact both a b
  | _ => exact wpAny_pure q

noncomputable def iterList (C : Cx) (h0' : C.hd = none) (l : Addr) (ds : List D) : Iter C [(.ref l, .lst ds)] where
  P := fun o r => ∃ i : Nat, o.cls = .type "list_iterator" ∧ o.data = .fields #[.ref l, .int i 0] ∧ r = ds.drop i
  code := by rintro o r ⟨i, _, hd, _⟩ vs q c t e; rw [hd] at q; cases q; cases e
  done := by
    rintro A hid s it o Q E rm g bd se hh hoff hgh e ⟨i, hc, hd, hr⟩ q
    obtain ⟨ol, vs, n, e1, q1, r1⟩ := (se _ (.head _)).lst_at
    have hi : ds.length ≤ i := List.drop_eq_nil_iff.mp hr.symm
    refine wpAny_pyNext_list_end (rm.h0 h0') ⟨o, e, hc, hd⟩ (q1.isList (T := "list") e1) (by rw [List.getElem?_toArray, List.getElem?_eq_none_iff, r1.length]; exact hi) fun h' hx => ?_
    have nc : NoCode o := by intro vs q c t e; rw [hd] at q; cases q; cases e
    exact q _ (g.same hoff e nc hgh hx) (fun b ob n zz e => hx b ob n e) (fun zz zz e => e)
  more := by
    rintro A hid s it o d r Q E rm g bd se hh hoff hgh e ⟨i, hc, hd, hr⟩ q
    obtain ⟨ol, vs, n, e1, q1, r1⟩ := (se _ (.head _)).lst_at
    have hdi : ds[i]? = some d := by rw [← List.head?_drop, ← hr]; rfl
    obtain ⟨v, ev, rv⟩ := r1.get hdi
    have nc : NoCode o := by intro vs q c t e; rw [hd] at q; cases q; cases e
    refine wpAny_pyNext_list_item (i := i) ⟨o, e, hc, hd⟩ (q1.isList (T := "list") e1) (by rw [List.getElem?_toArray]; exact ev) fun h' hit hs => ?_
    obtain ⟨o', e', hc', hd'⟩ := hit
    refine q v _ o' (g.same hoff e nc hgh hs.extBut) (keep_same hs) e' ⟨i + 1, hc', hd', ?_⟩ (fun zz zz e => e) (rv.same hh hs.extBut)
    rw [← List.tail_drop, ← hr]; rfl
  go := fun A s it o r tg v Q E e ⟨i, hc, hd, hr⟩ q => go_of e hc (by decide +kernel) q
theorem evit_list {e : Expr} {ds : List D} (h : Ev C F ρ e (.lst ds)) (h0' : C.hd = none := by assumption) : EvIt C F ρ e ds := .mk fun W s Q E f q =>
  h.go W s _ _ f fun v s₁ x r => by
    obtain ⟨l, o, vs, rfl, n, e1, q1, r1⟩ := r.lst_inv
    refine wpAny_pyIter_list (q1.isList (T := "list") e1) ?_
    have y : Ex C s₁ { s₁ with heap := s₁.heap.push { cls := .type "list_iterator", data := .fields #[.ref l, .int 0 0] } } := Ex.push x.gd _
    refine q _ (iterList C h0' l ds) _ _ _ (x.trans y) ?_ (Heap.get?_push_size _ rfl) ⟨0, rfl, rfl, rfl⟩ fun p hp => ?_
    · cases q0 : s.heap.get? s₁.heap.objs.size with
      | none => rfl
      | some o => exact absurd (Bd.ex (hid := fun a => a = s₁.heap.objs.size) (fun a q1 => ⟨o, q1 ▸ q0⟩) x _ rfl) (fun ⟨o', e⟩ => no_at e get_size rfl)
    · rcases List.mem_cons.mp hp with rfl | hp
      · exact (Rp.hide get_size r).ex x.gd y
      · cases hp
end
end Mine
/-! M8 -/
namespace Mine
open PySem PySem.W PySem.Spec PySem.Calls PyProof.Rows

section
variable {C : Cx} {F : Fx} {ρ ρ' ρ'' : Store} {K K' : Fl → Store → Prop}

/-- the list that a name alone holds has changed -/
theorem Frm.ownset2 {W : Wt} {s s' : Shared} {x : Str} {ds ds' : List D} {a : Addr} {vs' : Array Value} {n' : Nat} (f : Frm C F W ρ s) (hx : ρ.lookup x = some (.own ds)) (ha : W.get F.env x = some (.ref a)) (g' : Gd C s')
    (hs : ∀ b o, b ≠ a → C.off b → s.heap.get? b = some o → s'.heap.get? b = some o) (hg : ∀ (i : Nat) (x : GenState), s.gens[i]? = some x → s'.gens[i]? = some x)
    (e' : s'.heap.get? a = some ({ cls := .type "list", data := .seq vs' n' } : Obj)) (r : Rps W.hid s'.heap vs'.toList ds') : Frm C F W ((x, .own ds') :: ρ) s' := by
  obtain ⟨v, e, a', vs, n, q1, q2, q3, q4, q5, q6, q7, q8⟩ := f.owns x ds hx
  have q0 : a' = a := by rw [q1, ha] at e; exact (Value.ref.inj (Option.some.inj e)).symm
  rw [q0] at q2 q4 q5 q6 q7 q8
  have kd : ∀ b, b ≠ a → Kd s.heap s'.heap b := fun b h ob e n => hs b ob h (f.gd.off e n) e
  have kp : Kp W.hid s.heap W.hid s'.heap := fun b ob n e hcl => ⟨n, hs b ob (fun q => n (q ▸ q4)) (f.gd.offq e hcl) e⟩
  have sl : SlAt F W s'.heap (.ref a) (.own ds') := ⟨a, vs', n', rfl, e', r, q4, q5, q6, q7, q8⟩
  exact { f with
    gd := g'
    ns := ns_keep f.ns (kd _ fun q => q6 q.symm)
    cells := fun y c e1 => cell_keep (f.cells y c e1) (kd _ fun q => q7 y c e1 q.symm)
    vals := put_vals ha sl (fun zz zz => rfl) fun y d e1 => (f.vals y d e1).imp fun zz q => ⟨q.1, q.2.mono kp⟩
    owns := put_owns ha sl (fun zz zz => rfl) fun y d hy e1 => (f.owns y d e1).imp fun w p => ⟨p.1, p.2.keep kp (fun b z zz h3 h4 h5 => ⟨kd b fun q => hy (f.apart y x _ _ _ e1 hx p.1 (by rw [z, q]; exact ha)), h3, h4, h5⟩) rfl⟩
    apart := put_apart ha (fun zz zz => rfl) (fun es zz y es' hy e q => hy (f.apart y x _ _ _ e hx q ha)) f.apart
    sc := fun b o n e1 => hs _ _ (fun q => no_at e1 q5 q) n (f.sc b o n e1)
    pins := fun p hp => have q := f.pins p hp; ⟨hs _ _ (fun q => q8 p hp q.symm) q.2.1 q.1, q.2⟩
    seen := fun p hp => (f.seen p hp).mono kp
    gens := fun i x e => hg i x (f.gens i x e)
    bd := fun b q => by
      by_cases hb : b = a
      · exact ⟨_, hb ▸ e'⟩
      · obtain ⟨ob, e2⟩ := f.bd b q
        exact (off_or g' b).elim (fun h => ⟨ob, hs b ob hb h e2⟩) id }
theorem Frm.ownset {W : Wt} {s : Shared} {h' : Heap} {tk : Nat} {x : Str} {ds ds' : List D} {a : Addr} {vs' : Array Value} {n' : Nat} (f : Frm C F W ρ s) (hx : ρ.lookup x = some (.own ds)) (ha : W.get F.env x = some (.ref a))
    (hs : Heap.SameBut a s.heap h') (e' : h'.get? a = some ({ cls := .type "list", data := .seq vs' n' } : Obj)) (r : Rps W.hid h' vs'.toList ds') : Frm C F W ((x, .own ds') :: ρ) { s with heap := h', toks := tk } := by
  obtain ⟨v, e, a', vs, n, q1, q2, q3, q4, q5, _⟩ := f.owns x ds hx
  have q0 : a' = a := by rw [q1, ha] at e; exact (Value.ref.inj (Option.some.inj e)).symm
  rw [q0] at q2 q5
  exact f.ownset2 (s' := { s with heap := h', toks := tk }) hx ha (f.gd.same (f.gd.off q2 (fun zz q => by cases q)) q2 (fun vs q => by cases q) (f.free q5) hs.extBut) (fun b o n zz e => hs.extBut b o n e) (fun zz zz e => e) e' r

/-- a name that holds a list of the frame's own -/
theorem own_name {W : Wt} {s : Shared} {x : Str} {p : Pos} {ds : List D} {Q : Value → Shared → Prop} {E : Value → Shared → Prop} (f : Frm C F W ρ s) (hx : ρ.lookup x = some (.own ds)) (hl : F.env.kindOf x = some .local)
    (q : ∀ a vs n, W.get F.env x = some (.ref a) → s.heap.get? a = some ({ cls := .type "list", data := .seq vs n } : Obj) → Rps W.hid s.heap vs.toList ds → W.hid a → Q (.ref a) s) (hd : (x == ("__debug__" : Str)) = false := by decide) : wpAny (model C.prog C.w) F.A (eval (.Name x p) F.env) Q E s := by
  obtain ⟨v, e, o⟩ := f.owns x ds hx
  obtain ⟨a, vs, n, q1, q2, q3, q4, _⟩ := o
  subst q1
  have e' := e
  rw [Wt.get_of_local hl] at e'
  exact wpAny_Name (wpAny_loadName_local f.kind hl f.ns e' (q a vs n e q2 q3 q4)) hd

theorem own_isList {h : Heap} {a : Addr} {vs : Array Value} {n : Nat} (e : h.get? a = some ({ cls := .type "list", data := .seq vs n } : Obj)) : h.IsList a vs := ⟨_, e, rfl, n, rfl⟩

theorem ev_len_own {x : Str} {np p pos : Pos} {ds : List D} (hx : ρ.lookup x = some (.own ds)) (hl : F.env.kindOf x = some .local) (hm : C.mg (Str.ofString "len") = none) (hk : F.env.kindOf (Str.ofString "len") = some .globalImplicit) (hz : (ds.length : Int) < 2 ^ 63) (hd : (x == ("__debug__" : Str)) = false := by decide)
    (he : backTo pos (starEach [.Name x p] F.env) = [(false, eval (.Name x p) F.env)] := by rfl) :
    Ev C F ρ (.Call (.Name (Str.ofString "len") np) [.Name x p] [] pos) (.int ds.length) := .mk fun W s Q E f q =>
  wpAny_Call_NameR (builtin_any f hk hm (v := .builtin "len") (by with_unfolding_all rfl) (by
    rw [he]
    refine callWith_builtin1 (own_name f hx hl (fun a vs n ha e r zz => ?_) hd)
    have hlen := r.length
    rw [Array.length_toList] at hlen
    refine call_len_list (own_isList e) (by rw [hlen]; exact hz) (q _ _ (Ex.toks f.gd) ?_)
    rw [hlen]; exact .int _ _) (by decide) (by decide))

theorem ev_sub_own {x : Str} {np p : Pos} {i : Expr} {ds : List D} {k : Int} {d : D} (hx : ρ.lookup x = some (.own ds)) (hl : F.env.kindOf x = some .local) (hi : Ev C F ρ i (.int k)) (h : (0 ≤ k ∧ k < 2 ^ 63 ∧ ds[k.toNat]? = some d) ∨ (k < 0 ∧ -(ds.length : Int) ≤ k ∧ -(2 ^ 63) ≤ k ∧ ds[(k + ds.length).toNat]? = some d)) (hd : (x == ("__debug__" : Str)) = false := by decide) :
    Ev C F ρ (.Subscript (.Name x np) i p) d := .mk fun W s Q E f q =>
  Subscript_ (own_name f hx hl (fun a vs n ha e r zz => hi.go W s _ _ f fun v₂ s₂ y r₂ => by
    obtain ⟨t, rfl⟩ := r₂.int_inv
    have hlen := r.length
    rw [Array.length_toList] at hlen
    have e2 := y.keep _ _ (f.gd.off e (fun zz q => by cases q)) e
    have r2 := r.ex f.gd y
    obtain ⟨ops, eo⟩ := sub_ops i (.ref a) (.int k t)
    refine tail_any (own_isList e2).typeIs slot_list_getitem.lookup ?_ eo
    rcases h with ⟨h1, h2, h3⟩ | ⟨h1, h2, h3, h4⟩
    · obtain ⟨v, ev, rv⟩ := r2.get h3
      exact wpAny_getItem_list (own_isList e2) h1 h2 (by simpa using ev) (q _ _ y rv)
    · obtain ⟨v, ev, rv⟩ := r2.get h4
      exact wpAny_getItem_list_neg (own_isList e2) h1 (by rw [hlen]; exact h2) h3 (by rw [hlen]; simpa using ev) (q _ _ y rv)) hd)

theorem own_meth {x : Str} {name : Str} {id : String} {np apos pos : Pos} {es : List Expr} {ds : List D} {W : Wt} {s : Shared} {Q : Value → Shared → Prop} {E : Value → Shared → Prop} (f : Frm C F W ρ s) (hx : ρ.lookup x = some (.own ds)) (hl : F.env.kindOf x = some .local)
    (slot : Slot "list" name id) (hty : typeOf (.builtin id) = pure (.type "method_descriptor"))
    (q : ∀ a vs n, W.get F.env x = some (.ref a) → s.heap.get? a = some ({ cls := .type "list", data := .seq vs n } : Obj) → Rps W.hid s.heap vs.toList ds → W.hid a → wpAny (model C.prog C.w) F.A (callWith pos (.builtin id) [.ref a] (backTo pos (starEach es F.env)) []) Q E s)
    (hfew : ((backTo pos (starEach es F.env)).all (fun x => !x.1) && (backToKw pos (keywordEach [] F.env)).all (fun x => x.1.isSome) && decide (es.length + ([] : List Keyword).length + (if ([] : List Keyword).isEmpty then 0 else 1) < 30)) = true)
    (hline : (apos.endLine == pos.line) = true) (hbase : attributeBase (.Name x np) name F.env (eval (.Name x np) F.env) = eval (.Name x np) F.env) (pa : PlainAttrs "list") (hd : (x == ("__debug__" : Str)) = false := by decide) :
    wpAny (model C.prog C.w) F.A (eval (.Call (.Attribute (.Name x np) name apos) es [] pos) F.env) Q E s :=
  wpAny_Call_method hbase hfew hline pa slot hty (own_name f hx hl (fun a vs n ha e r hh => ⟨(own_isList e).typeIs, fun b q => by cases q; exact ⟨_, e, rfl⟩, q a vs n ha e r hh⟩) hd)

theorem w1_append {x : Str} {np apos cpos pos : Pos} {e : Expr} {ds : List D} {d : D} (hx : ρ.lookup x = some (.own ds)) (hl : F.env.kindOf x = some .local) (he : Ev C F ρ e d) (hz : ds.length ≤ sizeLine) (h : K .next ((x, .own (ds ++ [d])) :: ρ)) (hd : (x == ("__debug__" : Str)) = false := by decide)
    (htr : backTo cpos (starEach [e] F.env) = [(false, eval e F.env)] := by rfl) (hi : interactive F.env = false := by rfl) (hs : swapsWith (.Call (.Attribute (.Name x np) (Str.ofString "append") apos) [e] [] cpos) none pos.line F.env = pure false := by rfl)
    (hfew : ((backTo cpos (starEach [e] F.env)).all (fun x => !x.1) && (backToKw cpos (keywordEach [] F.env)).all (fun x => x.1.isSome) && decide (([e] : List Expr).length + ([] : List Keyword).length + (if ([] : List Keyword).isEmpty then 0 else 1) < 30)) = true := by rfl)
    (hline : (apos.endLine == cpos.line) = true := by rfl) (hbase : attributeBase (.Name x np) (Str.ofString "append") F.env (eval (.Name x np) F.env) = eval (.Name x np) F.env := by rfl) :
    W1 C F ρ (.Expr (.Call (.Attribute (.Name x np) (Str.ofString "append") apos) [e] [] cpos) pos) K := .mk fun W s f =>
  wpAny_Expr_any (own_meth f hx hl PySem.F.slot_list_append PySem.F.type_list_append (fun a vs n ha e1 r hh => by
    rw [htr]
    refine P.append_list (he.go W s _ _ f fun v s₁ x₁ r₁ => ?_)
    have e2 := x₁.keep _ _ (f.gd.off e1 (fun zz q => by cases q)) e1
    have r2 := r.ex f.gd x₁
    have hlen := r.length
    rw [Array.length_toList] at hlen
    refine ⟨vs, n, by rw [hlen]; exact hz, e2, W, _, .next, (f.ex x₁).ownset (ds' := ds ++ [d]) hx ha (Heap.SameBut.update ..) (PySem.IsL.update e2 _) ?_, .next, h⟩
    rw [Array.toList_push]
    exact (Rps.append r2 (.cons r₁ .nil)).same hh (Heap.SameBut.update ..).extBut) hfew hline hbase PySem.F.plainAttrs_list hd) hi hs
end
end Mine
/-! M9 -/
namespace Mine
open PySem PySem.W PySem.Spec PySem.Calls PyProof.Rows

/-- a place of a list, from behind, gets a value -/
theorem setItem_neg {prog : Program} {w : World} {A : Around} {E : Value → Shared → Prop} {s : Shared} {l : Addr} {items : Array Value} {n : Nat} {k : Int} {t : Tok} {v : Value} {Q : Unit → Shared → Prop} (hl : PySem.IsL s.heap l items n)
    (h0 : k < 0) (h1 : -(items.size : Int) ≤ k) (hfit : -(2 ^ 63) ≤ k) (hQ : Q () { s with heap := s.heap.update l (Obj.mapSeq (·.setIfInBounds (k + items.size).toNat v)) }) : wpAny (model prog w) A (setItem (.ref l) (.int k t) v) Q E s := by
  have hL := own_isList hl
  unfold setItem
  try with_reducible refine wpAny_holding ?_
  first | refine wpAny_bind (wpAny_pure ?_) | skip
  refine wpAny_bind (wpAny_sequenceKey hL.typeIs (by decide) ?_)
  refine wpAny_bind (wpAny_callSpecial?_slot (name := Str.ofString "__setitem__") hL.typeIs slot_list_setitem
    (wpAny_call_entry slot_list_setitem hL.typeIs entry_list_setitem ?_ (args_list_setitem _ _ _)))
  show wpAny _ _ (Builtin.List.listSubscript? (.int k t) >>= _) _ _ s
  refine wpAny_bind (wpAny_listSubscript_int (fitsIndex_neg h0 hfit) ?_)
  clear hfit
  have hidx := seqIndex_neg h0 h1
  have hlt : (k + items.size).toNat < items.size := by lia
  obtain ⟨j, rfl⟩ : ∃ j : Nat, k = Int.negSucc j := by
    cases k with
    | ofNat n => exact absurd h0 (Int.not_lt.mpr (Int.natCast_nonneg n))
    | negSucc n => exact ⟨n, rfl⟩
  show wpAny _ _ ((Builtin.List.listItems (.ref l) >>= fun xs => pure ((seqIndex? (Int.negSucc j) xs.size).bind fun i => xs[i]?.map (i, ·))) >>= _) _ _ s
  refine wpAny_bind (wpAny_bind ?_)
  show wpAny _ _ (seqItems? (.ref l) >>= _) _ _ s
  refine wpAny_bind (wpAny_seqItems hl rfl (wpAny_pure (wpAny_pure ?_)))
  rw [hidx]
  simp only [Option.bind_some, Array.getElem?_eq_getElem hlt, Option.map_some]
  show wpAny _ _ (setSeqItemAt l _ v >>= _) _ _ s
  refine wpAny_bind (wpAny_setSeqItemAt hl rfl ?_)
  first
    | exact wpAny_bind (wpAny_pure (wpAny_pure ⟨.none, rfl, wpAny_pure hQ⟩))
    | exact wpAny_pure ⟨.none, rfl, wpAny_pure hQ⟩

section
variable {C : Cx} {F : Fx} {ρ ρ' ρ'' : Store} {K K' : Fl → Store → Prop}

theorem w1_extend {x : Str} {np apos cpos pos : Pos} {e : Expr} {ds es : List D} (hx : ρ.lookup x = some (.own ds)) (hl : F.env.kindOf x = some .local) (he : Ev C F ρ e (.lst es)) (hz : ds.length + es.length ≤ sizeLine) (h : K .next ((x, .own (ds ++ es)) :: ρ)) (hd : (x == ("__debug__" : Str)) = false := by decide)
    (htr : backTo cpos (starEach [e] F.env) = [(false, eval e F.env)] := by rfl) (hi : interactive F.env = false := by rfl) (hs : swapsWith (.Call (.Attribute (.Name x np) (Str.ofString "extend") apos) [e] [] cpos) none pos.line F.env = pure false := by rfl)
    (hfew : ((backTo cpos (starEach [e] F.env)).all (fun x => !x.1) && (backToKw cpos (keywordEach [] F.env)).all (fun x => x.1.isSome) && decide (([e] : List Expr).length + ([] : List Keyword).length + (if ([] : List Keyword).isEmpty then 0 else 1) < 30)) = true := by rfl)
    (hline : (apos.endLine == cpos.line) = true := by rfl) (hbase : attributeBase (.Name x np) (Str.ofString "extend") F.env (eval (.Name x np) F.env) = eval (.Name x np) F.env := by rfl) :
    W1 C F ρ (.Expr (.Call (.Attribute (.Name x np) (Str.ofString "extend") apos) [e] [] cpos) pos) K := .mk fun W s f =>
  wpAny_Expr_any (own_meth f hx hl PySem.F.slot_list_extend PySem.F.type_list_extend (fun a vs n ha e1 r hh => by
    rw [htr]
    refine P.extend_list (he.go W s _ _ f fun v s₁ x₁ r₁ => ?_)
    obtain ⟨b, o, ws, rfl, nh, eb, q1, rb⟩ := r₁.lst_inv
    obtain ⟨n2, rfl⟩ := q1.eq
    have e2 := x₁.keep _ _ (f.gd.off e1 (fun zz q => by cases q)) e1
    have r2 := r.ex f.gd x₁
    have hlen := r.length
    rw [Array.length_toList] at hlen
    have hlen2 := rb.length
    have hz' : vs.size + ws.toArray.size ≤ sizeLine := by rw [hlen, List.size_toArray, hlen2]; exact hz
    refine ⟨b, vs, ws.toArray, n, n2, by (clear hz hd hi hfew hline nh hlen hlen2; lia), by (clear hz hd hi hfew hline nh hlen hlen2; lia), extend_door hz', rfl, e2, eb, W, _, .next, (f.ex x₁).ownset (ds' := ds ++ es) hx ha (Heap.SameBut.update ..) (PySem.IsL.update e2 _) ?_, .next, h⟩
    rw [Array.toList_append]
    exact (Rps.append r2 rb).same hh (Heap.SameBut.update ..).extBut) hfew hline hbase PySem.F.plainAttrs_list hd) hi hs

theorem w1_reverse {x : Str} {np apos cpos pos : Pos} {ds : List D} (hx : ρ.lookup x = some (.own ds)) (hl : F.env.kindOf x = some .local) (hz : ds.length ≤ sizeLine) (h : K .next ((x, .own ds.reverse) :: ρ)) (hd : (x == ("__debug__" : Str)) = false := by decide)
    (hi : interactive F.env = false := by rfl) (hs : swapsWith (.Call (.Attribute (.Name x np) (Str.ofString "reverse") apos) [] [] cpos) none pos.line F.env = pure false := by rfl)
    (hfew : ((backTo cpos (starEach [] F.env)).all (fun x => !x.1) && (backToKw cpos (keywordEach [] F.env)).all (fun x => x.1.isSome) && decide (([] : List Expr).length + ([] : List Keyword).length + (if ([] : List Keyword).isEmpty then 0 else 1) < 30)) = true := by rfl)
    (hline : (apos.endLine == cpos.line) = true := by rfl) (hbase : attributeBase (.Name x np) (Str.ofString "reverse") F.env (eval (.Name x np) F.env) = eval (.Name x np) F.env := by rfl) :
    W1 C F ρ (.Expr (.Call (.Attribute (.Name x np) (Str.ofString "reverse") apos) [] [] cpos) pos) K := .mk fun W s f =>
  wpAny_Expr_any (own_meth f hx hl PySem.F.slot_list_reverse PySem.F.type_list_reverse (fun a vs n ha e1 r hh => by
    have hlen := r.length
    rw [Array.length_toList] at hlen
    refine P.reverse_list e1 ⟨W, _, .next, f.ownset (ds' := ds.reverse) hx ha (Heap.SameBut.update ..) (PySem.IsL.update e1 _) ?_, .next, h⟩ (by rw [hlen]; exact hz)
    rw [Array.toList_reverse]
    exact (Rps.reverse r).same hh (Heap.SameBut.update ..).extBut) hfew hline hbase PySem.F.plainAttrs_list hd) hi hs

/-- x[k] op= e from behind, x the frame's own -/
theorem w1_augneg {x : Str} {np tp p : Pos} {op : Operator} {i e : Expr} {ds : List D} {k : Int} {a b d : D} (hx : ρ.lookup x = some (.own ds)) (hl : F.env.kindOf x = some .local) (hi : Ev C F ρ i (.int k)) (h0 : k < 0) (h1 : -(ds.length : Int) ≤ k) (hfit : -(2 ^ 63) ≤ k) (ha : ds[(k + ds.length).toNat]? = some a)
    (he : Ev C F ρ e b) (ho : Iop C op a b d) (h : K .next ((x, .own (ds.set (k + ds.length).toNat d)) :: ρ)) (hk : 1 ≤ F.k) (hd : (x == ("__debug__" : Str)) = false := by decide)
    (hst : ∀ ov iv new, augStore i ov iv new = (do holding [new, ov, iv] (setItem ov iv new); release [new, ov, iv] []; pure .next) := by intros; rfl) :
    W1 C F ρ (.AugAssign (.Subscript (.Name x np) i tp) op e p) K := .mk fun W s f =>
  wpAny_AugAssign_SubscriptAny (hi := hst) (own_name f hx hl (fun l vs n hl' e1 r hh => hi.go W s _ _ f fun iv s₁ x₁ r₁ => by
    obtain ⟨t, rfl⟩ := r₁.int_inv
    have e2 := x₁.keep _ _ (f.gd.off e1 (fun zz q => by cases q)) e1
    have r2 := r.ex f.gd x₁
    have hlen := r.length
    rw [Array.length_toList] at hlen
    obtain ⟨v, ev, rv⟩ := r2.get ha
    refine wpAny_getItem_list_neg (own_isList e2) h0 (by rw [hlen]; exact h1) hfit (by rw [hlen]; simpa using ev) (he.go W s₁ _ _ (f.ex x₁) fun w s₂ x₂ r₃ => ?_)
    refine ho F.A W.hid s₂ [v, w] _ _ (f.rm.mono hk) x₂.gd ((f.ex x₁).ex x₂).bd (.cons (rv.ex x₁.gd x₂) (.cons r₃ .nil)) fun z s₃ x₃ r₄ => ?_
    have x₂₃ := x₂.trans x₃
    have e3 := x₂₃.keep _ _ (x₁.gd.off e2 (fun zz q => by cases q)) e2
    have r3 := r2.ex x₁.gd x₂₃
    refine setItem_neg e3 h0 (by rw [hlen]; exact h1) hfit ⟨W, _, .next, ((f.ex x₁).ex x₂₃).ownset (ds' := ds.set (k + ds.length).toNat d) hx hl' (Heap.SameBut.update ..) (PySem.IsL.update e3 _) ?_, .next, h⟩
    rw [Array.toList_setIfInBounds, hlen]
    exact (Rps.setAt r₄ _ r3).same hh (Heap.SameBut.update ..).extBut) hd)

/-! ## list and tuple arithmetic -/
theorem bin_ladd {ds es : List D} (hz : ds.length + es.length ≤ sizeLine) : Bin C .Add (.lst ds) (.lst es) (.lst (ds ++ es)) := by
  intro A hid s vs Q E rm g bd r q
  obtain ⟨v, w, rfl, rv, rw'⟩ := r.two
  obtain ⟨a, o, us, rfl, n, e, q1, r1⟩ := rv.lst_inv
  obtain ⟨b, o2, ws, rfl, n2, e2, q2, r2⟩ := rw'.lst_inv
  obtain ⟨k1, rfl⟩ := q1.eq
  obtain ⟨k2, rfl⟩ := q2.eq
  refine P.add_list e e2 (q _ _ (Ex.push g _) (Rp.push_list bd ?_)) (by rw [List.size_toArray, List.size_toArray, r1.length, r2.length]; exact hz)
  simpa using r1.append r2
theorem bin_tadd {ds es : List D} (h1 : ds ≠ []) (h2 : es ≠ []) (hz : ds.length + es.length ≤ sizeLine) : Bin C .Add (.tup ds) (.tup es) (.tup (ds ++ es)) := by
  intro A hid s vs Q E rm g bd r q
  obtain ⟨v, w, rfl, rv, rw'⟩ := r.two
  obtain ⟨a, o, us, rfl, n, e, q1, r1⟩ := rv.tup_inv
  obtain ⟨b, o2, ws, rfl, n2, e2, q2, r2⟩ := rw'.tup_inv
  obtain ⟨k1, rfl⟩ := q1.eq
  obtain ⟨k2, rfl⟩ := q2.eq
  have l1 := r1.length
  have l2 := r2.length
  refine P.add_tuple e e2 ?_ ?_ (q _ _ (Ex.push g _) (Rp.push_tup bd ?_)) (by rw [List.size_toArray, List.size_toArray, l1, l2]; exact hz)
  · cases us with
    | nil => cases ds with | nil => exact absurd rfl h1 | cons _ _ => cases l1
    | cons _ _ => simp
  · cases ws with
    | nil => cases es with | nil => exact absurd rfl h2 | cons _ _ => cases l2
    | cons _ _ => simp
  · simpa using r1.append r2

theorem fold_rep (n : Nat) (xs : Array Value) : (List.foldl (fun x1 x2 => x1 ++ x2) #[] (List.replicate n xs)).toList = (List.replicate n xs.toList).flatten := by
  have key : ∀ (n : Nat) (acc : Array Value), (List.foldl (fun x1 x2 => x1 ++ x2) acc (List.replicate n xs)).toList = acc.toList ++ (List.replicate n xs.toList).flatten := by
    intro n
    induction n with
    | zero => intro acc; simp
    | succ n ih => intro acc; rw [List.replicate_succ, List.foldl_cons, ih]; simp [List.replicate_succ]
  simpa using key n #[]
theorem rps_rep {hid : Addr → Prop} {h : Heap} {vs : List Value} {ds : List D} (r : Rps hid h vs ds) : ∀ n : Nat, Rps hid h (List.replicate n vs).flatten (List.replicate n ds).flatten
  | 0 => .nil
  | n + 1 => by rw [List.replicate_succ, List.replicate_succ, List.flatten_cons, List.flatten_cons]; exact r.append (rps_rep r n)

/-- list * int: the new list's place and items -/
theorem mul_list_any {A : Around} {s : Shared} {hid : Addr → Prop} {v : Value} {ds : List D} {x : Int} {u : Tok} {Q : Value → Shared → Prop} {E : Value → Shared → Prop} (r : Rp hid s.heap v (.lst ds)) (hne : ds ≠ []) (hlo : -(2 ^ 63 : Int) ≤ x) (hhi : x < 2 ^ 63) (hsz : ds.length * x.toNat ≤ 2 ^ 24)
    (q : ∀ vs : Array Value, Rps hid s.heap vs.toList (List.replicate x.toNat ds).flatten → Q (.ref s.heap.objs.size) { s with heap := s.heap.push { cls := .type "list", data := .seq vs } }) : wpAny (model C.prog C.w) A (binaryOp .Mult v (.int x u)) Q E s := by
  obtain ⟨a, o, us, rfl, n, e, q1, r1⟩ := r.lst_inv
  obtain ⟨k, rfl⟩ := q1.eq
  have hl := r1.length
  have hem : ¬ us.toArray.isEmpty = true := by
    cases us with
    | nil => cases ds with | nil => exact absurd rfl hne | cons _ _ => cases hl
    | cons _ _ => simp
  refine wpAny_binaryOp_repeat_ref (T := "list") (U := "int") (by decide) ⟨_, e, rfl⟩ (fun s' => typeIs_int s' x u) noFill_list_mul PySem.F.fills_int_mul PySem.F.slot_int_rmul repeat_list PySem.F.slot_int_index.lookup
    (call_meets PySem.F.slot_int_rmul (typeIs_int s x u) PySem.F.entry_int_rmul (PySem.F.args_int_rmul_2 _ _) (int___rmul___int_list x u a us.toArray k)
      ⟨e, rfl, ⟨_, e, rfl⟩, call_meets PySem.F.slot_list_mul ⟨_, e, rfl⟩ PySem.F.entry_list_mul (PySem.F.args_list_mul_2 _ _)
        (AutoListH.list___mul___list_int_3 a us.toArray k x u (by simp [Builtin.List.listFitsIndex]; (clear hne hsz n hl hem; lia)) (by rw [List.size_toArray, hl]; (clear hne hlo hhi n hl hem; lia)) (by rw [List.size_toArray, hl]; simp [Builtin.List.listTooLong, sizeLine]; (clear hne hlo hhi n hl hem; omega)))
        ⟨e, q _ ?_⟩⟩)
  rw [if_neg hem, fold_rep]
  exact rps_rep r1 _
theorem bin_lmul {ds : List D} {x : Int} (hne : ds ≠ []) (hlo : -(2 ^ 63 : Int) ≤ x) (hhi : x < 2 ^ 63) (hsz : ds.length * x.toNat ≤ 2 ^ 24) : Bin C .Mult (.lst ds) (.int x) (.lst (List.replicate x.toNat ds).flatten) := by
  intro A hid s vs Q E rm g bd r q
  obtain ⟨v, w, rfl, rv, rw'⟩ := r.two
  obtain ⟨u, rfl⟩ := rw'.int_inv
  exact mul_list_any rv hne hlo hhi hsz fun vs r => q _ _ (Ex.push g _) (Rp.push_list bd r)
theorem evnew_lmul {l r : Expr} {p : Pos} {ds : List D} {x : Int} (hl : Ev C F ρ l (.lst ds)) (hr : Ev C F ρ r (.int x)) (hne : ds ≠ []) (hlo : -(2 ^ 63 : Int) ≤ x) (hhi : x < 2 ^ 63) (hsz : ds.length * x.toNat ≤ 2 ^ 24) : EvNew C F ρ (.BinOp l .Mult r p) (List.replicate x.toNat ds).flatten := .mk fun W s Q E f q =>
  wpAny_BinOp (hl.go W s _ _ f fun v s₁ x₁ r₁ => hr.go W s₁ _ _ (f.ex x₁) fun v₂ s₂ y r₂ => by
    obtain ⟨u, rfl⟩ := r₂.int_inv
    refine mul_list_any (r₁.ex x₁.gd y) hne hlo hhi hsz fun vs r => q _ vs 0 _ ((x₁.trans y).trans (Ex.push y.gd _)) ?_ (Heap.get?_push_size _ rfl) ((Rps.hide get_size r).mono fun a o k e zz => ⟨k, Heap.get?_push_of_some _ e⟩)
    cases q0 : s.heap.get? s₂.heap.objs.size with
    | none => rfl
    | some o => exact absurd (Bd.ex (hid := fun a => a = s₂.heap.objs.size) (fun a q1 => ⟨o, q1 ▸ q0⟩) (x₁.trans y) _ rfl) (fun ⟨o', e⟩ => no_at e get_size rfl))
end
end Mine
/-! M10 -/
namespace Mine
open PySem PySem.W PySem.Spec PySem.Calls PyProof.Rows PySem.SeqAt

/-! ## comparing and searching ints in lists -/
noncomputable def lI (ns : List Int) : List D := ns.map .int
theorem ints_len (ns : List Int) : (lI ns).length = ns.length := by simp [lI]
theorem rps_reads {hid : Addr → Prop} {h : Heap} {vs : List Value} : ∀ {ns : List Int}, Rps hid h vs (lI ns) → ∃ as, ReadsAll h vs (ns.map .int) as := by
  induction vs with
  | nil => intro ns r; cases ns with | nil => exact ⟨_, .nil⟩ | cons _ _ => cases r
  | cons v vs ih =>
    intro ns r
    cases ns with
    | nil => cases r
    | cons n ns =>
      cases r with
      | cons a r =>
        obtain ⟨t, rfl⟩ := a.int_inv
        obtain ⟨as, q⟩ := ih r
        exact ⟨_, .cons (.int _ _) q⟩
theorem eqvAll_ints : ∀ ns ms : List Int, PyData.eqvAll (ns.map .int) (ms.map .int) = (ns == ms)
  | [], [] => rfl
  | [], _ :: _ => rfl
  | _ :: _, [] => rfl
  | a :: ns, b :: ms => by
    have ih := eqvAll_ints ns ms
    show ((a == b) && PyData.eqvAll (ns.map .int) (ms.map .int)) = _
    rw [ih]; rfl
theorem lay_ints : ∀ ns : List Int, PyData.canLayAll0 (ns.map .int) = true
  | [] => rfl
  | a :: ns => by show (true && PyData.canLayAll0 (ns.map .int)) = true; rw [lay_ints ns]; rfl
theorem depth_ints : ∀ ns : List Int, PyData.depthAll (ns.map .int) = 0
  | [] => rfl
  | a :: ns => by show max 0 (PyData.depthAll (ns.map .int)) = 0; rw [depth_ints ns]; rfl
section
variable {C : Cx} {F : Fx} {ρ ρ' ρ'' : Store} {K K' : Fl → Store → Prop}
theorem cmp_lne {ns ms : List Int} : Cmp C .NotEq (.lst (lI ns)) (.lst (lI ms)) (ns != ms) := by
  intro A hid s vs Q E rm g bd r q
  obtain ⟨v, w, rfl, rv, rw'⟩ := r.two
  obtain ⟨a, o, us, rfl, n, e, q1, r1⟩ := rv.lst_inv
  obtain ⟨b, o2, ws, rfl, n2, e2, q2, r2⟩ := rw'.lst_inv
  obtain ⟨k1, rfl⟩ := q1.eq
  obtain ⟨k2, rfl⟩ := q2.eq
  obtain ⟨as, x1⟩ := rps_reads r1
  obtain ⟨bs, x2⟩ := rps_reads r2
  refine compareNe_reads (da := .list (ns.map .int)) (db := .list (ms.map .int)) (.list e rfl rfl (by simpa using x1)) (.list e2 rfl rfl (by simpa using x2)) (lay_ints _) (lay_ints _) ?_ ?_
  · have := rm.2.2
    show A.units + min (PyData.depthAll (ns.map .int) + 1) (PyData.depthAll (ms.map .int) + 1) < 9900
    rw [depth_ints, depth_ints]; (clear n n2; lia)
  · show Q (.bool (!PyData.eqvAll (ns.map .int) (ms.map .int))) s
    rw [eqvAll_ints]; exact q _ _ (Ex.refl g) (.bool _)
theorem cmp_tne {ns ms : List Int} : Cmp C .NotEq (.tup (lI ns)) (.tup (lI ms)) (ns != ms) := by
  intro A hid s vs Q E rm g bd r q
  obtain ⟨v, w, rfl, rv, rw'⟩ := r.two
  obtain ⟨a, o, us, rfl, n, e, q1, r1⟩ := rv.tup_inv
  obtain ⟨b, o2, ws, rfl, n2, e2, q2, r2⟩ := rw'.tup_inv
  obtain ⟨k1, rfl⟩ := q1.eq
  obtain ⟨k2, rfl⟩ := q2.eq
  obtain ⟨as, x1⟩ := rps_reads r1
  obtain ⟨bs, x2⟩ := rps_reads r2
  refine compareNe_reads (da := .tuple (ns.map .int)) (db := .tuple (ms.map .int)) (.tuple e rfl rfl (by simpa using x1)) (.tuple e2 rfl rfl (by simpa using x2)) (lay_ints _) (lay_ints _) ?_ ?_
  · have := rm.2.2
    show A.units + min (PyData.depthAll (ns.map .int) + 1) (PyData.depthAll (ms.map .int) + 1) < 9900
    rw [depth_ints, depth_ints]; (clear n n2; lia)
  · show Q (.bool (!PyData.eqvAll (ns.map .int) (ms.map .int))) s
    rw [eqvAll_ints]; exact q _ _ (Ex.refl g) (.bool _)
theorem cmp_teq {ns ms : List Int} : Cmp C .Eq (.tup (lI ns)) (.tup (lI ms)) (ns == ms) := by
  intro A hid s vs Q E rm g bd r q
  obtain ⟨v, w, rfl, rv, rw'⟩ := r.two
  obtain ⟨a, o, us, rfl, n, e, q1, r1⟩ := rv.tup_inv
  obtain ⟨b, o2, ws, rfl, n2, e2, q2, r2⟩ := rw'.tup_inv
  obtain ⟨k1, rfl⟩ := q1.eq
  obtain ⟨k2, rfl⟩ := q2.eq
  obtain ⟨as, x1⟩ := rps_reads r1
  obtain ⟨bs, x2⟩ := rps_reads r2
  refine compareEq_reads (da := .tuple (ns.map .int)) (db := .tuple (ms.map .int)) (.tuple e rfl rfl (by simpa using x1)) (.tuple e2 rfl rfl (by simpa using x2)) (lay_ints _) (lay_ints _) ?_ ?_
  · have := rm.2.2
    show A.units + min (PyData.depthAll (ns.map .int) + 1) (PyData.depthAll (ms.map .int) + 1) < 9900
    rw [depth_ints, depth_ints]; (clear n n2; lia)
  · show Q (.bool (PyData.eqvAll (ns.map .int) (ms.map .int))) s
    rw [eqvAll_ints]; exact q _ _ (Ex.refl g) (.bool _)
theorem any_eqv (k : Int) : ∀ ns : List Int, ((ns.map PyData.int).any fun y => PyData.eqv y (.int k)) = ns.contains k
  | [] => rfl
  | a :: ns => by
    have ih := any_eqv k ns
    rw [List.map_cons, List.any_cons, ih, List.contains_cons]
    show ((a == k) || _) = _
    by_cases h : a = k
    · subst h; simp
    · rw [beq_eq_false_iff_ne.mpr h, beq_eq_false_iff_ne.mpr (Ne.symm h)]
theorem cmp_notin {ns : List Int} {k : Int} : Cmp C .NotIn (.int k) (.lst (lI ns)) (!ns.contains k) := by
  intro A hid s vs Q E rm g bd r q
  obtain ⟨v, w, rfl, rv, rw'⟩ := r.two
  obtain ⟨u, rfl⟩ := rv.int_inv
  obtain ⟨b, o2, ws, rfl, n2, e2, q2, r2⟩ := rw'.lst_inv
  obtain ⟨k2, rfl⟩ := q2.eq
  obtain ⟨bs, x2⟩ := rps_reads r2
  refine notIn_list_reads (xs := ns.map .int) (d := .int k) (.list e2 rfl rfl (by simpa using x2)) (.int _ _) (lay_ints _) rfl ?_ ?_
  · have := rm.2.2
    show A.units + 1 + min (PyData.depthAll (ns.map .int)) 0 < 9900
    (clear n2; lia)
  · rw [any_eqv]; exact q _ _ (Ex.refl g) (.bool _)

noncomputable def isI (k : Int) : Value → Bool
  | .int i _ => i == k
  | _ => false
theorem rps_isI {hid : Addr → Prop} {h : Heap} {vs : List Value} {k : Int} {t : Tok} : ∀ {ns : List Int}, Rps hid h vs (lI ns) → (∀ y ∈ vs, MeetsSeq.EqGives y (.int k t) (isI k y)) ∧ vs.map (isI k) = ns.map (· == k) := by
  induction vs with
  | nil => intro ns r; cases ns with | nil => exact ⟨fun zz h => (nomatch h), rfl⟩ | cons _ _ => cases r
  | cons v vs ih =>
    intro ns r
    cases ns with
    | nil => cases r
    | cons n ns =>
      cases r with
      | cons a r =>
        obtain ⟨u, rfl⟩ := a.int_inv
        obtain ⟨h1, h2⟩ := ih r
        refine ⟨fun y hy => ?_, by rw [List.map_cons, List.map_cons, h2]; rfl⟩
        rcases List.mem_cons.mp hy with rfl | hy
        · exact MeetsSeq.EqGives.int _ _ _ _
        · exact h1 y hy
theorem call_count {ns : List Int} {k : Int} : Call C 0 (.builtin "list.count") [.lst (lI ns), .int k] (.int (ns.count k : Nat)) := by
  intro A hid s vs Q E rm g bd r q
  obtain ⟨v, w, rfl, rv, rw'⟩ := r.two
  obtain ⟨a, o, us, rfl, n, e, q1, r1⟩ := rv.lst_inv
  obtain ⟨k1, rfl⟩ := q1.eq
  obtain ⟨u, rfl⟩ := rw'.int_inv
  obtain ⟨h1, h2⟩ := rps_isI (k := k) (t := u) r1
  refine call_meets PySem.F.slot_list_count ⟨_, e, rfl⟩ PySem.F.entry_list_count (PySem.F.args_list_count_2 _ _) (MeetsSeq.list_count a us.toArray k1 (.int k u) (isI k) (fun y hy => h1 y (by simpa using hy))) ⟨e, ?_⟩
  have : us.toArray.toList.countP (isI k) = ns.count k := by
    have : us.countP (isI k) = (us.map (isI k)).countP id := by rw [List.countP_map]; rfl
    show us.countP (isI k) = _
    rw [this, h2, List.countP_map, List.count]; rfl
  rw [this]
  exact q _ _ (Ex.toks g) (.int _ _)
theorem call_index {ns : List Int} {k : Int} {j : Nat} (hj : ns[j]? = some k) (hno : ∀ m, m < j → ns[m]? ≠ some k) (hz : ns.length ≤ sizeLine) : Call C 0 (.builtin "list.index") [.lst (lI ns), .int k] (.int j) := by
  intro A hid s vs Q E rm g bd r q
  obtain ⟨v, w, rfl, rv, rw'⟩ := r.two
  obtain ⟨a, o, us, rfl, n, e, q1, r1⟩ := rv.lst_inv
  obtain ⟨k1, rfl⟩ := q1.eq
  obtain ⟨u, rfl⟩ := rw'.int_inv
  obtain ⟨h1, h2⟩ := rps_isI (k := k) (t := u) r1
  have hl := r1.length
  rw [ints_len] at hl
  have hjl : j < ns.length := (List.getElem?_eq_some_iff.mp hj).1
  have at_ : ∀ m (hm : m < us.length), isI k us[m] = (ns[m]? == some k) := by
    intro m hm
    have h3 := congrArg (·[m]?) h2
    simp only [List.getElem?_map] at h3
    rw [List.getElem?_eq_getElem hm, List.getElem?_eq_getElem (hl ▸ hm)] at h3
    simp only [Option.map_some, Option.some.injEq] at h3
    rw [h3, List.getElem?_eq_getElem (hl ▸ hm)]; rfl
  refine call_meets PySem.F.slot_list_index ⟨_, e, rfl⟩ PySem.F.entry_list_index (PySem.F.args_list_index_2 _ _) (MeetsSeq.list_index a us.toArray k1 (.int k u) (isI k) (fun y hy => h1 y (by simpa using hy)) j (by rw [List.size_toArray, hl]; exact hjl) (by have : sizeLine = 2 ^ 24 := rfl; (clear n; lia)) ?_ fun m hm hmj => ?_) ⟨e, q _ _ (Ex.toks g) (.int _ _)⟩
  · rw [List.getElem_toArray, at_, hj]; simp
  · rw [List.getElem_toArray, at_, beq_eq_false_iff_ne]; exact hno m hmj
theorem call_bits {a : Int} : Call C 0 (.builtin "int.bit_length") [.int a] (.int (Builtin.Int.intBits a : Nat)) := by
  intro A hid s vs Q E rm g bd r q
  obtain ⟨v, rfl, rv⟩ := r.one
  obtain ⟨u, rfl⟩ := rv.int_inv
  exact call_gives PySem.F.slot_int_bit_length (typeIs_int s a u) PySem.F.entry_int_bit_length (PySem.F.args_int_bit_length_1 _) (AutoIntG2.int_bit_length_int_0 a u) (q _ _ (Ex.toks g) (.int _ _))

theorem preSum_take (val : Nat → Int) (ns : List Int) (h : ∀ (j : Nat) (n : Int), ns[j]? = some n → val j = n) : ∀ j, j ≤ ns.length → preSum val j = (ns.take j).sum
  | 0, _ => by simp [preSum]
  | j + 1, hj => by
    have hlt : j < ns.length := hj
    have e : ns.take (j + 1) = ns.take j ++ [ns[j]] := by rw [List.take_add_one, List.getElem?_eq_getElem hlt]; rfl
    rw [preSum, preSum_take val ns h j (by (lia)), e, h j _ (List.getElem?_eq_getElem hlt), List.sum_append, List.sum_cons, List.sum_nil, Int.add_zero]
theorem call_sum {ns : List Int} (h0' : C.hd = none := by assumption) : Call C 1 (.builtin "sum") [.lst (lI ns)] (.int ns.sum) := by
  intro A hid s vs Q E rm g bd r q
  obtain ⟨v, rfl, rv⟩ := r.one
  obtain ⟨a, o, us, rfl, n, e, q1, r1⟩ := rv.lst_inv
  have hl := r1.length
  rw [ints_len] at hl
  have hL := q1.isList (T := "list") e
  refine call_sum_walkG (wpAny_pyIter_list hL ?_)
  have hne : a ≠ s.heap.objs.size := fun q => no_at e get_size q
  have hat : ∀ (j : Nat) (v : Value), us.toArray[j]? = some v → ∃ t, v = .int (ns.getD j 0) t := by
    intro j v ev
    obtain ⟨d, ed, rd⟩ := r1.get' (k := j) (by simpa using ev)
    simp only [lI, List.getElem?_map] at ed
    cases hn : ns[j]? with
    | none => rw [hn] at ed; cases ed
    | some m =>
      rw [hn] at ed; cases ed
      obtain ⟨t, rfl⟩ := rd.int_inv
      exact ⟨t, by rw [List.getD_eq_getElem?_getD, hn]; rfl⟩
  refine ⟨_, _, _, _, _, _, fun j => ns.getD j 0, rfl, Walks.list (A := A.in1) (rm.h0 h0') s.heap.objs.size a hne us.toArray, ⟨⟨_, Heap.get?_push_size _ rfl, rfl, rfl⟩, hL.push _⟩, fun b hb => ?_, hat, fun h' tk t' hk => ?_⟩
  · simp only [List.mem_cons, List.not_mem_nil, or_false] at hb
    show b < (s.heap.push _).objs.size
    rw [Heap.size_push]
    rcases hb with rfl | rfl
    · exact Nat.lt_succ_self _
    · exact Nat.lt_succ_of_lt (Heap.lt_size e)
  · have hs : preSum (fun j => ns.getD j 0) us.toArray.size = ns.sum := by
      rw [List.size_toArray, hl, preSum_take _ ns (fun j n e => by rw [List.getD_eq_getElem?_getD, e]; rfl) _ (Nat.le_refl _), List.take_length]
    rw [hs]
    exact q _ _ (Ex.of_keeps g fun b ob eb => hk b ob (by simp only [List.mem_cons, List.not_mem_nil, or_false]; exact fun q => no_at eb get_size q) (Heap.get?_push_of_some _ eb)) (.int _ _)
noncomputable def lS (xs : List Str) : List D := xs.map .str
theorem rps_strs {hid : Addr → Prop} {h : Heap} {vs : List Value} : ∀ {xs : List Str}, Rps hid h vs (lS xs) → StrsAre vs xs := by
  induction vs with
  | nil => intro xs r; cases xs with | nil => exact .nil | cons _ _ => cases r
  | cons v vs ih =>
    intro xs r
    cases xs with
    | nil => cases r
    | cons n xs =>
      cases r with
      | cons a r =>
        obtain ⟨t, rfl⟩ := a.str_inv
        exact .cons _ _ (ih r)
theorem call_join {x : Str} {ys : List Str} (hsep : x.length ≤ 16) (hw : (ys.map (·.length)).sum + ys.length ≤ 1048576) : Call C 0 (.builtin "str.join") [.str x, .lst (lS ys)] (.str (Txt.join x ys)) := by
  intro A hid s vs Q E rm g bd r q
  obtain ⟨v, w, rfl, rv, rw'⟩ := r.two
  obtain ⟨t, rfl⟩ := rv.str_inv
  obtain ⟨a, o, us, rfl, n, e, q1, r1⟩ := rw'.lst_inv
  exact join_listW (q1.isList (T := "list") e) (by simpa using rps_strs r1) hsep hw fun t' k => q _ _ (Ex.toks g) (.str _ _)

theorem ws_freeze {x : Str} {ds : List D} {sts : List Stmt} (hx : ρ.lookup x = some (.own ds)) (h : Ws C F ((x, .val (.lst ds)) :: ρ) sts K) : Ws C F ρ sts K := .mk fun W s f => by
  obtain ⟨W', f', _⟩ := f.freeze hx
  exact h.go W' s f'

/-- a tuple of names takes a tuple -/
theorem w1_assign_tuple {ts : List Expr} {k : Nat} {tp p : Pos} {e : Expr} {ds : List D} (he : Ev C F ρ e (.tup ds)) (ha : AsL C F ts ds ρ ρ') (h : K .next ρ') (h0' : C.hd = none := by assumption) (hs : swapsWithSole [.Tuple ts k tp] e p.line F.env = pure false := by rfl) (hw : swappedStores [.Tuple ts k tp] e F.env = pure none := by rfl) :
    W1 C F ρ (.Assign [.Tuple ts k tp] e p) K := .mk fun W s f =>
  Assign_Tuple (he.go W s _ _ f fun v s₁ x₁ r => (as_tuple ha).go W s₁ v _ _ (f.ex x₁) r fun W' s' f' zz => ⟨W', _, _, f', .next, h⟩) hs hw
end
end Mine
/-! M11 -/
namespace Mine
open PySem PySem.W PySem.Spec PySem.Calls PyProof.Rows PySem.SeqAt

section
variable {C : Cx} {F : Fx} {ρ ρ' ρ'' : Store} {K K' : Fl → Store → Prop}

/-- two pins change places -/
theorem Frm.swap {W : Wt} {s : Shared} {p q : Addr × Obj} {ps : List (Addr × Obj)} {se : List (Value × D)} (f : Frm C (F.on (p :: q :: ps) se) W ρ s) : Frm C (F.on (q :: p :: ps) se) W ρ s := by
  have mm : ∀ {r}, r ∈ q :: p :: ps → r ∈ p :: q :: ps := by
    intro r h
    exact allC (P := fun r => r ∈ p :: q :: ps) (.tail _ (.head _)) (allC (.head _) fun r h => .tail _ (.tail _ h)) r h
  exact { f with
    cfree := fun hcs y c e1 e2 => have z := f.cfree hcs y c e1 e2; ⟨z.1, z.2.1, z.2.2.1, fun r hr => z.2.2.2 r (mm hr)⟩
    owns := fun y d e1 => (f.owns y d e1).imp fun zz z => ⟨z.1, z.2.keep (fun zz zz n e zz => ⟨n, e⟩) (fun b zz zz h3 h4 h5 => ⟨fun zz e zz => e, h3, h4, fun r hr => h5 r (mm hr)⟩) rfl⟩
    pins := fun r hr => f.pins r (mm hr)
    pcell := fun r hr => f.pcell r (mm hr)
    pinj := by
      have h : ((p.1 :: q.1 :: ps.map (·.1)).Nodup) := f.pinj
      show ((q.1 :: p.1 :: ps.map (·.1)).Nodup)
      rw [List.nodup_cons, List.nodup_cons] at h ⊢
      obtain ⟨h1, h2, h3⟩ := h
      rw [List.mem_cons, not_or] at h1 ⊢
      exact ⟨⟨fun z => h1.1 z.symm, h2⟩, h1.2, h3⟩ }

/-- the frame of a comprehension -/
noncomputable abbrev Fx.comp (F : Fx) (scope : Scope) (cl : List (Str × Addr)) (L : Addr) (sc : Heap) (H : Addr → Prop) (gens : Array GenState) (ps : List (Addr × Obj)) (se : List (Value × D)) : Fx :=
  { env := compEnvC scope cl L F.env, A := F.A, k := F.k, cst := false, sc := sc, H := H, pins := ps, seen := se, gens := gens }

/-- the frame in which a comprehension's loop starts -/
theorem comp_frm {scope : Scope} {cl : List (Str × Addr)} {ρc : Store} {W : Wt} {s s₄ : Shared} {D L it l : Addr} {ds : List Mine.D} {o : Obj} {m : Str → Option Value} (f : Frm C F W ρ s) (x : Ex C s s₄) (hkind : scope.kind = .function) (hcl : ∀ x c, cl.lookup x = some c → F.env.cells.lookup x = some c)
    (hcap : ∀ x sl, ρc.lookup x = some sl → ∃ d, sl = .val d ∧ ρ.lookup x = some (.val d) ∧ F.env.kindOf x ≠ some .local ∧ (relabel scope F.env).names.lookup x ≠ some .local)
    (hns : s₄.heap.Ns L m) (fD : s.heap.get? D = none) (fit : s.heap.get? it = none) (fL : s.heap.get? L = none) (eD : s₄.heap.get? D = some { cls := .type "list", data := .seq #[] }) (eit : s₄.heap.get? it = some o) (hno : NoCode o) (oD : C.off D) (oit : C.off it)
    (nLD : D ≠ L) (nLit : it ≠ L) (nitD : it ≠ D) (rl : Rp (fun b => ((W.hid b ∨ b = it) ∨ b = D) ∨ b = L) s₄.heap (.ref l) (.lst ds)) :
    Frm C (F.comp scope cl L s.heap W.hid s.gens [(D, { cls := .type "list", data := .seq #[] }), (it, o)] [(.ref l, .lst ds)]) { m := m, cm := W.cm, hid := fun b => ((W.hid b ∨ b = it) ∨ b = D) ∨ b = L } ρc s₄ :=
  have f4 := f.ex x
  have nc : ∀ y c, cl.lookup y = some c → ∃ o, s.heap.get? c = some o := fun y c e => (f.cells y c (hcl y c e)).imp fun zz q => q.1
  { gd := x.gd, ok := f.ok, rm := f.rm, kind := hkind, glob := f.glob, blt := f.blt, ns := hns, cells := fun y c e => f4.cells y c (hcl y c e), cfree := nofun, cinj := fun y z c e1 e2 => f.cinj y z c (hcl y c e1) (hcl z c e2)
    vals := fun y d e => by
      obtain ⟨d', e1, e2, e3, e4⟩ := hcap y _ e
      cases e1
      obtain ⟨v, e5, r5⟩ := f.vals y d e2
      rw [Wt.get, if_neg e3] at e5
      exact ⟨v, (if_neg (c := (compEnvC scope cl L F.env).kindOf y = some .local) e4).trans e5, (((r5.hide fit).hide fD).hide fL).ex f.gd x⟩
    owns := fun y d e => by obtain ⟨d', e1, _⟩ := hcap y _ e; cases e1
    apart := fun y z ds' es v e => by obtain ⟨d', e1, _⟩ := hcap y _ e; cases e1
    sc := fun b o n e => x.keep b o n e, scg := f.gd.keep, lloc := fL
    pins := all2 ⟨eD, oD, .inl (.inr rfl), nLD, fD, fun vs q => by cases q⟩ ⟨eit, oit, .inl (.inl (.inr rfl)), nLit, fit, hno⟩
    pcell := all2 (fun y c e q => (nc y c e).elim fun zz e2 => no_at e2 fD q) (fun y c e q => (nc y c e).elim fun zz e2 => no_at e2 fit q)
    pinj := List.nodup_cons.mpr ⟨fun q => nitD (List.mem_singleton.mp q).symm, List.nodup_cons.mpr ⟨nofun, .nil⟩⟩
    seen := all1 rl, gens := fun i y e => x.gens i y e, hL := .inr rfl, hH := fun b q => .inl (.inl (.inl q)), Hb := f.bd
    bd := fun b q => q.elim (fun q => q.elim (fun q => q.elim (f4.bd b) fun q => ⟨_, q ▸ eit⟩) fun q => ⟨_, q ▸ eD⟩) fun q => (ns_at hns).imp fun zz e => q ▸ e }

/-- between two turns of a comprehension -/
inductive CTurn (C : Cx) (Fc : List (Addr × Obj) → Fx) (P : Obj → List Mine.D → Prop) (ρc : Store) (D it : Addr) (ds : List Mine.D) (g : Mine.D → Mine.D) (n : Nat) (s : Shared) : Prop
  | mk (W : Wt) (done r : List Mine.D) (vs : Array Value) (k : Nat) (o : Obj) (hds : ds = done ++ r) (hn : n = r.length) (f : Frm C (Fc [(D, { cls := .type "list", data := .seq vs k }), (it, o)]) W ρc s) (hp : P o r) (ra : Rps W.hid s.heap vs.toList (done.map g))

theorem comp_loop {elt tg iter : Expr} {scope : Scope} {pos : Pos} {cl : List (Str × Addr)} {ds : List Mine.D} {g : Mine.D → Mine.D} {ρc : Store} {sc : Heap} {H : Addr → Prop} {gens : Array GenState} {D L it l : Addr} (hz : ds.length ≤ sizeLine) (h0' : C.hd = none) (hk : 1 ≤ F.k) (hgit : C.gh.get? it = none)
    (turn : ∀ L sc H gens ps se d, d ∈ ds → ∃ ρ'', As C (F.comp scope cl L sc H gens ps se) tg d ρc ρ'' ∧ Sub ρc ρ'' ∧ Ev C (F.comp scope cl L sc H gens ps se) ρ'' elt (g d)) {W₀ : Wt} {o₀ : Obj} {s₀ : Shared}
    (frm : Frm C (F.comp scope cl L sc H gens [(D, { cls := .type "list", data := .seq #[] }), (it, o₀)] [(.ref l, .lst ds)]) W₀ ρc s₀) (hp₀ : (iterList C h0' l ds).P o₀ ds) {R : Result → Shared → Prop}
    (fin : ∀ W s vs k, Frm C (F.comp scope cl L sc H gens [(D, { cls := .type "list", data := .seq vs k })] []) W ρc s → Rps (fun b => H b ∨ b = L) s.heap vs.toList (ds.map g) → R (.ok .next) s) :
    codeAny (model C.prog C.w) F.A (.compLoop (.ListComp elt [⟨tg, iter, [], 0⟩] scope pos) 0 (.ref it) (.ref D) (compEnvC scope cl L F.env)) R s₀ := by
  refine kcp_loop (I := CTurn C (fun ps => F.comp scope cl L sc H gens ps [(.ref l, .lst ds)]) (iterList C h0' l ds).P ρc D it ds g) ?_ ds.length (.mk _ [] ds #[] 0 _ rfl rfl frm hp₀ .nil)
  intro n sx hT
  refine encl fun Go ret => ?_
  obtain ⟨W₂, done, r, vs, k, o, hds, hn, f₂, hp₂, ra⟩ := hT
  obtain ⟨p1, p2, p3, -⟩ := f₂.pins (it, o) (.tail _ (.head _))
  have hse : ∀ p ∈ [((.ref l : Value), Mine.D.lst ds)], Rp W₂.hid sx.heap p.1 p.2 := f₂.seen
  have rpi : ∀ {s' : Shared} {us es}, (∀ b ob, b ≠ it → C.off b → sx.heap.get? b = some ob → s'.heap.get? b = some ob) → Rps W₂.hid sx.heap us es → Rps W₂.hid s'.heap us es := fun hs' ra => ra.mono fun b ob nb e hcls => ⟨nb, hs' b ob (fun q => nb (q ▸ p3)) (f₂.gd.offq e hcls) e⟩
  cases r with
  | nil =>
    refine ret ((iterList C h0' l ds).done F.A W₂.hid sx it o _ _ (f₂.rm.mono hk) f₂.gd f₂.bd hse p3 p2 hgit p1 hp₂ fun s' g' hs' hg' => ?_)
    have f₃ := Frm.drop (F := F.comp scope cl L sc H gens [(D, { cls := .type "list", data := .seq vs k })] []) (src := [(.ref l, .lst ds)]) (Frm.swap (F := F.comp scope cl L sc H gens [] []) f₂) g' hs' hg'
    exact fin _ s' vs k f₃ ((rpi hs' (by rw [hds, List.append_nil]; exact ra)).mono fun b ob nb e zz => ⟨fun q => nb (q.elim (f₂.hH b) (fun q => q ▸ f₂.hL)), e⟩)
  | cons d r =>
    refine ret ((iterList C h0' l ds).more F.A W₂.hid sx it o d r _ _ (f₂.rm.mono hk) f₂.gd f₂.bd hse p3 p2 hgit p1 hp₂ fun v s' o' g' hs' e' hp' hg' rv => ?_)
    have f₃ : Frm C (F.comp scope cl L sc H gens [(D, { cls := .type "list", data := .seq vs k }), (it, o')] [(.ref l, .lst ds)]) W₂ ρc s' :=
      Frm.swap (F := F.comp scope cl L sc H gens [] []) (Frm.repin (F := F.comp scope cl L sc H gens [(D, { cls := .type "list", data := .seq vs k })] []) (Frm.swap (F := F.comp scope cl L sc H gens [] []) f₂) g' hs' e' ((iterList C h0' l ds).code _ _ hp') hg')
    refine (iterList C h0' l ds).go F.A s' it o' r tg v _ _ e' hp' ?_
    refine encl fun Go2 ret2 => ?_
    obtain ⟨ρ'', ha, hsub, hev⟩ := turn L sc H gens [(D, { cls := .type "list", data := .seq vs k }), (it, o')] [(.ref l, .lst ds)] d (by rw [hds]; exact List.mem_append_right _ (.head _))
    refine ret2 (ha.go W₂ s' v _ _ f₃ rv fun W₄ s₄ f₄ kr => hev.go W₄ s₄ _ _ f₄ fun v₂ s₅ x₅ r₅ => ?_)
    have f₅ := f₄.ex x₅
    obtain ⟨c1, c2, c3, c4, c5, c6⟩ := f₅.pins (D, _) (.head _)
    have ra5 : Rps W₄.hid s₅.heap vs.toList (done.map g) := ((rpi hs' ra).map kr).ex f₄.gd x₅
    have hlen := ra5.length
    rw [Array.length_toList, List.length_map] at hlen
    refine wpAny_list_append_plain ⟨k, c1⟩ (fun h' hpl hsb => ?_) (by rw [hlen]; have := congrArg List.length hds; rw [List.length_append, List.length_cons] at this; (clear hk p1 hlen hn c4; lia))
    obtain ⟨k', ek⟩ := hpl
    refine ⟨r.length, by rw [hn]; exact Nat.lt_succ_self _, .mk W₄ (done ++ [d]) r (vs.push v₂) k' o' (by rw [hds, List.append_assoc]; rfl) rfl ?_ hp' ?_⟩
    · exact (Frm.repin (F := F.comp scope cl L sc H gens [(it, o')] []) f₅ (f₅.gd.same c2 c1 c6 (f₅.free c5) hsb.extBut) (fun b ob n zz e => hsb.extBut b ob n e) ek (fun vs q => by cases q) (fun zz zz e => e)).sub hsub
    · rw [Array.toList_push, List.map_append]
      exact (Rps.append ra5 (.cons r₅ .nil)).same c3 hsb.extBut

theorem comp_core {elt tg iter : Expr} {scope : Scope} {pos : Pos} {cl : List (Str × Addr)} {ds : List D} {g : D → D} {ρc : Store} (he : Ev C F ρ iter (.lst ds)) (hz : ds.length ≤ sizeLine)
    (hclos : closureFor scope F.env = pure cl) (hcl : ∀ x c, cl.lookup x = some c → F.env.cells.lookup x = some c) (hcell : ∀ y ∈ scope.names, y.2 ≠ .cell) (hkind : scope.kind = .function) (hnames : ∀ y ∈ scope.names, y.2 = .local → scope.names.lookup y.1 = some .local)
    (hcap : ∀ x sl, ρc.lookup x = some sl → ∃ d, sl = .val d ∧ ρ.lookup x = some (.val d) ∧ F.env.kindOf x ≠ some .local ∧ (relabel scope F.env).names.lookup x ≠ some .local)
    (turn : ∀ L sc H gens ps se d, d ∈ ds → ∃ ρ'', As C (F.comp scope cl L sc H gens ps se) tg d ρc ρ'' ∧ Sub ρc ρ'' ∧ Ev C (F.comp scope cl L sc H gens ps se) ρ'' elt (g d)) (hk : 1 ≤ F.k) (h0' : C.hd = none := by assumption)
    (hs : ∀ x, foldedSetIterable iter F.env x = pure x := by intro _; rfl) {W : Wt} {s : Shared} (f : Frm C F W ρ s) {use : Option (Value → Sem Unit)} {Q : Value → Shared → Prop} {E : Value → Shared → Prop}
    (fin : ∀ (D L : Addr) (s' : Shared) (vs : Array Value) (k : Nat) (m : Str → Option Value), Ex C s s' → s.heap.get? D = none → s.heap.get? L = none → D ≠ L → s'.heap.get? D = some ({ cls := .type "list", data := .seq vs k } : Obj) → s'.heap.Ns L m → Rps (fun b => W.hid b ∨ b = L) s'.heap vs.toList (ds.map g) →
      compPost (model C.prog C.w) F.A E use Q (.ref D) L (.ok .next) s')
    : wpAny (model C.prog C.w) F.A (comprehension (.ListComp elt [⟨tg, iter, [], 0⟩] scope pos) scope F.env (firstIterPos [⟨tg, iter, [], 0⟩] pos) (newList []) (firstAsync [⟨tg, iter, [], 0⟩]) (firstIter [⟨tg, iter, [], 0⟩] F.env) use) Q E s := by
  refine wpAny_comprehension_free rfl hs hclos hkind hnames ?_
  refine he.go W s _ _ f fun v s₁ x r => ?_
  obtain ⟨l, o, vs, rfl, n, e1, q1, r1⟩ := r.lst_inv
  refine wpAny_pyIter_list (q1.isList (T := "list") e1) ?_
  have fresh : s.heap.get? s₁.heap.objs.size = none := by
    cases q0 : s.heap.get? s₁.heap.objs.size with
    | none => rfl
    | some o => exact absurd (Bd.ex (hid := fun a => a = s₁.heap.objs.size) (fun a q1 => ⟨o, q1 ▸ q0⟩) x _ rfl) (fun ⟨o', e⟩ => no_at e get_size rfl)
  have back : ∀ a, s₁.heap.get? a = none → s.heap.get? a = none := fun a ha => by
    cases q0 : s.heap.get? a with
    | none => rfl
    | some o => exact absurd (Bd.ex (hid := fun b => b = a) (fun b q1 => ⟨o, q1 ▸ q0⟩) x _ rfl) (fun ⟨o', e⟩ => no_at e ha rfl)
  refine wpAny_newObj_type (wpAny_newFunctionEnv hcell (by intro y hy; simp at hy) (fun h₁ hns₁ hsb₁ => ?_) hkind)
  dsimp only at hns₁ hsb₁ ⊢
  generalize hH2 : s₁.heap.push { cls := .type "list_iterator", data := .fields #[.ref l, .int 0 0] } = H2 at hns₁ hsb₁ ⊢
  generalize hH3 : H2.push { cls := .type "list", dict := none, data := .seq ([] : List Value).toArray } = H3 at hns₁ hsb₁ ⊢
  have z2 : H2.objs.size = s₁.heap.objs.size + 1 := by rw [← hH2, Heap.size_push]
  have z3 : H3.objs.size = s₁.heap.objs.size + 1 + 1 := by rw [← hH3, Heap.size_push, z2]
  generalize hitE : s₁.heap.objs.size = it at fresh z2 z3 ⊢
  have k2 : ∀ b o, s₁.heap.get? b = some o → H2.get? b = some o := fun b o e => hH2 ▸ Heap.get?_push_of_some _ e
  have k3 : ∀ b o, H2.get? b = some o → H3.get? b = some o := fun b o e => hH3 ▸ Heap.get?_push_of_some _ e
  have nLit : it ≠ H3.objs.size := by rw [z3]; (clear hz hk n hitE z2 z3; lia)
  have nLD : H2.objs.size ≠ H3.objs.size := by rw [z3, z2]; (clear hz hk n hitE z2 z3 nLit; lia)
  have nitD : it ≠ H2.objs.size := by rw [z2]; (clear hz hk n hitE z2 z3 nLit nLD; lia)
  have k4 : ∀ b o, b ≠ H3.objs.size → H3.get? b = some o → h₁.get? b = some o := fun b o n e => hsb₁.extBut b o n (Heap.get?_push_of_some _ e)
  have kk : ∀ b o, s₁.heap.get? b = some o → h₁.get? b = some o := fun b o e => k4 b o (Nat.ne_of_lt (by have l1 := Heap.lt_size e; rw [hitE] at l1; rw [z3]; exact Nat.lt_succ_of_lt (Nat.lt_succ_of_lt l1))) (k3 b o (k2 b o e))
  have fit : s₁.heap.get? it = none := by rw [← hitE]; exact get_size
  have fD : s₁.heap.get? H2.objs.size = none := by
    cases q0 : s₁.heap.get? H2.objs.size with
    | none => rfl
    | some o => have l1 := Heap.lt_size q0; rw [hitE, z2] at l1; exact absurd l1 (Nat.not_lt.mpr (Nat.le_succ _))
  have fL : s₁.heap.get? H3.objs.size = none := by
    cases q0 : s₁.heap.get? H3.objs.size with
    | none => rfl
    | some o => have l1 := Heap.lt_size q0; rw [hitE, z3] at l1; exact absurd l1 (Nat.not_lt.mpr (Nat.le_succ_of_le (Nat.le_succ _)))
  have eit : h₁.get? it = some { cls := .type "list_iterator", data := .fields #[.ref l, .int 0 0] } := k4 _ _ nLit (k3 _ _ (by rw [← hH2, ← hitE]; exact Heap.get?_push_size _ rfl))
  have eD : h₁.get? H2.objs.size = some { cls := .type "list", data := .seq #[] } := k4 _ _ nLD (by rw [← hH3]; exact Heap.get?_push_size _ rfl)
  have x4 : Ex C s { s₁ with heap := h₁, toks := s₁.toks + ([] : List (Str × Value)).length } := x.trans (Ex.of_keeps x.gd kk)
  have loop := comp_loop (elt := elt) (iter := iter) (pos := pos) (R := compPost (model C.prog C.w) F.A E use Q (.ref H2.objs.size) H3.objs.size) hz h0' hk (f.free (f.fresh (back _ fit))) turn
    (comp_frm f x4 hkind hcl hcap hns₁ (back _ fD) (back _ fit) (back _ fL) eD eit (fun vs q c t e => by cases q; cases e) (off_of_new x.gd fD) (off_of_new x.gd fit) nLD nLit nitD ((((r.hide fit).hide fD).hide fL).ex x.gd (Ex.of_keeps x.gd kk))) ⟨0, rfl, rfl, rfl⟩
    fun W₂ s' vs k f₃ ra => fin H2.objs.size H3.objs.size s' vs k _ ⟨f₃.gd, fun b o n e => f₃.sc b o n e, fun i y e => f₃.gens i y e⟩ (back _ fD) f₃.lloc nLD (f₃.pins _ (.head _)).1 f₃.ns ra
  exact codeAny_compStart_list loop (wpAny_pyIter_listiter (i := 0) ⟨_, eit, rfl, rfl⟩ loop)
theorem ev_listcomp {elt tg iter : Expr} {scope : Scope} {pos : Pos} {cl : List (Str × Addr)} {ds : List D} {g : D → D} {ρc : Store} (he : Ev C F ρ iter (.lst ds)) (hz : ds.length ≤ sizeLine)
    (hclos : closureFor scope F.env = pure cl) (hcl : ∀ x c, cl.lookup x = some c → F.env.cells.lookup x = some c) (hcell : ∀ y ∈ scope.names, y.2 ≠ .cell) (hkind : scope.kind = .function) (hnames : ∀ y ∈ scope.names, y.2 = .local → scope.names.lookup y.1 = some .local)
    (hcap : ∀ x sl, ρc.lookup x = some sl → ∃ d, sl = .val d ∧ ρ.lookup x = some (.val d) ∧ F.env.kindOf x ≠ some .local ∧ (relabel scope F.env).names.lookup x ≠ some .local)
    (turn : ∀ L sc H gens ps se d, d ∈ ds → ∃ ρ'', As C (F.comp scope cl L sc H gens ps se) tg d ρc ρ'' ∧ Sub ρc ρ'' ∧ Ev C (F.comp scope cl L sc H gens ps se) ρ'' elt (g d)) (hk : 1 ≤ F.k) (h0' : C.hd = none := by assumption)
    (hs : ∀ x, foldedSetIterable iter F.env x = pure x := by intro _; rfl) : Ev C F ρ (.ListComp elt [⟨tg, iter, [], 0⟩] scope pos) (.lst (ds.map g)) := .mk fun W s Q E f q => by
  rw [eval_ListComp]
  refine comp_core he hz hclos hcl hcell hkind hnames hcap turn hk h0' hs f (use := none) (Q := Q) (E := E) fun D L s' vs k m x hD hL hDL eD hn r => ⟨m, hn, fun h' hsb => ?_⟩
  obtain ⟨oL, es, ep, eL, hdL, rL⟩ := hn
  have hsx := hsb.extBut
  refine q _ _ ⟨x.gd.same (tk := s'.toks) (a := L) (x.gd.off eL (fun vs q => by rw [hdL] at q; cases q)) eL (fun vs q => by rw [hdL] at q; cases q) (f.free (f.fresh hL)) hsx, fun b o n e => hsx b o (fun q => no_at e hL q) (x.keep b o n e), x.gens⟩ ?_
  exact .lst (fun q => by obtain ⟨o, e⟩ := f.bd D q; exact no_at e hD rfl) (hsx D _ hDL eD) ⟨rfl, rfl, ⟨k, rfl⟩, rfl⟩ (vs := vs.toList) (r.mono fun b ob nb e zz => ⟨fun q => nb (.inl q), hsx b ob (fun q => nb (.inr q)) e⟩)
end
end Mine
/-! M12 -/
namespace Mine
open PySem PySem.W PySem.Spec PySem.Calls PyProof.Rows PySem.SeqAt

/-- a def of the module's, as the top leaves it -/
structure FnD (C : Cx) (x : Str) (a : Addr) (params : Arguments) (body : List Stmt) (scope : Scope) : Prop where
  mg : C.mg x = some (.ref a)
  at_ : ∃ o pm cd doc, C.gh.get? a = some o ∧ o.data = .func (docDef x params body scope pm cd doc) ∧ C.gh.CodeRec cd x

theorem FnD.fn {C : Cx} {x : Str} {a : Addr} {params : Arguments} {body : List Stmt} {scope : Scope} (h : FnD C x a params body scope) : ∃ fd, Fn C x a fd := by
  obtain ⟨o, pm, cd, doc, e, d, -⟩ := h.at_
  exact ⟨_, h.mg, o, e, d⟩

theorem lookup_app {α : Type} {x : Str} {l r : List (Str × α)} : (l ++ r).lookup x = (l.lookup x).or (r.lookup x) := by
  induction l with
  | nil => rfl
  | cons p l ih =>
    rw [List.cons_append, List.lookup_cons, List.lookup_cons, ih]
    cases x == p.1 <;> rfl
theorem lookup_out {α : Type} {x : Str} {l : List (Str × α)} (h : x ∉ l.map (·.1)) : l.lookup x = none := by
  cases q : l.lookup x with
  | none => rfl
  | some w => exact absurd (List.mem_map_of_mem (f := (·.1)) (lookup_mem q)) h
theorem lookup_reverse {α : Type} {l : List (Str × α)} (h : (l.map (·.1)).Nodup) (x : Str) : l.reverse.lookup x = l.lookup x := by
  induction l with
  | nil => rfl
  | cons p r ih =>
    rw [List.map_cons, List.nodup_cons] at h
    rw [List.reverse_cons, lookup_app, ih h.2, List.lookup_cons, List.lookup_cons]
    cases hx : x == p.1 with
    | true => rw [lookup_out (beq_iff_eq.mp hx ▸ h.1)]; rfl
    | false => cases List.lookup x r <;> rfl
noncomputable abbrev Fx.fn (env : Env) (A : Around) (k : Nat) (s : Shared) (hid : Addr → Prop) : Fx := { env := env, A := A.deeper env, k := k, cst := true, sc := s.heap, H := hid, pins := [], seen := [], gens := s.gens }

theorem zip_lookup {hid : Addr → Prop} {h : Heap} {x : Str} {sl : Sl} : ∀ {names : List Str} {vs : List Value} {ds : List D}, Rps hid h vs ds → (names.zip (ds.map Sl.val)).lookup x = some sl → ∃ v d, sl = .val d ∧ (names.zip vs).lookup x = some v ∧ Rp hid h v d := by
  intro names
  induction names with
  | nil => intro vs ds r e; cases e
  | cons n names ih =>
    intro vs ds r e
    cases r with
    | nil => cases e
    | cons a r =>
      rw [List.map_cons, List.zip_cons_cons, List.lookup_cons] at e
      rw [List.zip_cons_cons, List.lookup_cons]
      cases hx : x == n with
      | true => rw [hx] at e; exact ⟨_, _, (Option.some.inj e).symm, rfl, a⟩
      | false => rw [hx] at e; exact ih r e

section
variable {C : Cx}
/-- the frame in which a def's body starts -/
theorem fn_frm {env : Env} {A : Around} {k : Nat} {hid : Addr → Prop} {s : Shared} {h₀ : Heap} {tk : Nat} {W : Wt} {names : List Str} {vs : List Value} {ds : List D} (ok : C.Ok) (g : Gd C s) (rm : Rm C (A.deeper env) k) (bd : Bd hid s) (r : Rps hid s.heap vs ds) (ga : ∀ b o, s.heap.get? b = some o → h₀.get? b = some o)
    (hk : env.scope.kind = .function) (hg : env.globals = mainGlobals) (hb : env.builtins = builtinsNs) (hL : s.heap.get? env.locals = none) (WL : W.hid env.locals) (hsub : ∀ a, hid a → W.hid a) (hnew : ∀ a, W.hid a → hid a ∨ (s.heap.get? a = none ∧ ∃ o, h₀.get? a = some o)) (ns : h₀.Ns env.locals W.m)
    (cells : ∀ x c, env.cells.lookup x = some c → h₀.IsCell c (W.cm x) ∧ s.heap.get? c = none ∧ c ≠ env.locals ∧ W.hid c) (cinj : ∀ x y c, env.cells.lookup x = some c → env.cells.lookup y = some c → x = y) (hget : ∀ y v, (names.zip vs).lookup y = some v → W.get env y = some v) :
    Frm C (Fx.fn env A k s hid) W (names.zip (ds.map Sl.val)) { s with heap := h₀, toks := tk } :=
  have x1 : Ex C s { s with heap := h₀, toks := tk } := Ex.of_keeps g ga
  have no : ∀ y es, (names.zip (ds.map Sl.val)).lookup y ≠ some (.own es) := fun y es e => by
    obtain ⟨_, _, q, -⟩ := zip_lookup r e
    cases q
  { gd := x1.gd, ok := ok, rm := rm, kind := hk, glob := hg, blt := hb, ns := ns, cells := fun y c e => (cells y c e).1, cfree := fun zz y c e zz => ⟨(cells y c e).2.1, (cells y c e).2.2.1, (cells y c e).2.2.2, allN⟩, cinj := cinj
    vals := fun y d e => by
      obtain ⟨v, d', e2, e3, e4⟩ := zip_lookup r e
      rw [show d = d' by cases e2; rfl]
      exact ⟨v, hget y v e3, e4.mono fun b o n e zz => ⟨fun q => (hnew b q).elim n fun q => no_at e q.1 rfl, ga b o e⟩⟩
    owns := fun y d e => (no y d e).elim, apart := fun y zz d zz zz e => (no y d e).elim, sc := fun b o n e => ga b o e, scg := g.keep, lloc := hL, pins := allN, pcell := allN, pinj := .nil, seen := allN, gens := fun i y e => e, hL := WL, hH := hsub, Hb := bd
    bd := fun b q => (hnew b q).elim ((bd.ex x1) b) fun q => q.2 }
theorem call_fn {x : Str} {a : Addr} {params : Arguments} {body : List Stmt} {scope : Scope} {k : Nat} {ds : List D} {d : D} {names : List Str} (ok : C.Ok) (hf : FnD C x a params body scope)
    (hnames : params.args.map (·.arg) = names) (hnd : names.Nodup) (hlen : names.length = ds.length)
    (hb : ∀ pm cd doc (vs : List Value), vs.length = ds.length → bindArgs (docDef x params body scope pm cd doc) ⟨vs, []⟩ = pure (names.zip vs))
    (hloc : ∀ n ∈ names, scope.names.lookup n = some .local)
    (h : ∀ (L : Addr) (cd : Value) (A : Around) (s : Shared) (hid : Addr → Prop), Ws C (Fx.fn (envOf x scope L a cd) A k s hid) (names.zip (ds.map Sl.val)) body (fun fl zz => fl = .ret d))
    (hco : scope.isCoroutine = false := by rfl) (hgen : scope.isGenerator = false := by rfl) (hk : scope.kind = .function := by rfl)
    (hcell : ∀ x ∈ scope.names, x.2 ≠ .cell := by decide) : Call C (k + 1) (.ref a) ds d := by
  intro A hid s vs Q E rm g bd r q
  obtain ⟨o, pm, cd, doc, e, hd, hc⟩ := hf.at_
  have hl := r.length
  refine wpAny_call (codeAny_call_def rm.room (g.keep _ _ e) hd (ok.nolimit.keeps g.keep) (hc.keeps g.keep) rfl (.of_eq (hb pm cd doc vs hl)) hcell (fun y hy => ?_) (fun h₀ hns hkeep => ?_) hco hgen hk)
  · obtain ⟨n, v⟩ := y
    exact hloc n (List.of_mem_zip hy).1
  · have keysz : (names.zip vs).map (·.1) = names := by
      rw [List.map_fst_zip]; (clear hco hgen; lia)
    have ga : ∀ b o, s.heap.get? b = some o → h₀.get? b = some o := hkeep
    have fr := fn_frm (env := envOf x scope s.heap.objs.size a cd) (A := A) (k := k) (tk := s.toks + (names.zip vs).length) (W := { m := fun y => (names.zip vs).reverse.lookup y, cm := fun zz => none, hid := fun b => hid b ∨ b = s.heap.objs.size }) (names := names) ok g rm.deeper bd r ga hk rfl rfl get_size (.inr rfl) (fun zz => .inl)
      (fun b q => q.imp id fun (q : b = s.heap.objs.size) => ⟨q ▸ get_size, (ns_at hns).imp fun zz e => q ▸ e⟩) hns nofun nofun fun y v e => by
        rw [Wt.get_of_local (show (envOf x scope s.heap.objs.size a cd).kindOf y = some .local from hloc y (List.of_mem_zip (lookup_mem e)).1)]
        show (names.zip vs).reverse.lookup y = some v
        rw [lookup_reverse (by rw [keysz]; exact hnd)]; exact e
    exact wpAny_mono ((h s.heap.objs.size cd A s hid).go _ _ fr) (fun f s' he => he.ret fun W ρ v hv f' rr => by rw [hv]; exact q _ _ ⟨f'.gd, f'.sc, f'.gens⟩ (rr.less f'.hH)) fun zz zz x => x.elim
end

/-! ## range and reversed -/
theorem len_1 {α : Type} {vs : List α} (h : vs.length = 1) : ∃ a, vs = [a] := List.length_eq_one_iff.mp h
theorem len_2 {α : Type} {vs : List α} (h : vs.length = 2) : ∃ a b, vs = [a, b] := by
  cases vs with
  | nil => cases h
  | cons a r => obtain ⟨b, rfl⟩ := len_1 (Nat.succ.inj h); exact ⟨a, b, rfl⟩
theorem len_3 {α : Type} {vs : List α} (h : vs.length = 3) : ∃ a b c, vs = [a, b, c] := by
  cases vs with
  | nil => cases h
  | cons a r => obtain ⟨b, c, rfl⟩ := len_2 (Nat.succ.inj h); exact ⟨a, b, c, rfl⟩
theorem len_4 {α : Type} {vs : List α} (h : vs.length = 4) : ∃ a b c d, vs = [a, b, c, d] := by
  cases vs with
  | nil => cases h
  | cons a r => obtain ⟨b, c, d, rfl⟩ := len_3 (Nat.succ.inj h); exact ⟨a, b, c, d, rfl⟩
theorem len_6 {α : Type} {vs : List α} (h : vs.length = 6) : ∃ a b c d e f, vs = [a, b, c, d, e, f] := by
  cases vs with
  | nil => cases h
  | cons a r =>
    cases r with
    | nil => cases h
    | cons b r => obtain ⟨c, d, e, f, rfl⟩ := len_4 (Nat.succ.inj (Nat.succ.inj h)); exact ⟨a, b, c, d, e, f, rfl⟩
theorem fdiv_one_range (n : Int) (h : 0 ≤ n) : Builtin.Range.rangeSize 0 n 1 = n := by
  unfold Builtin.Range.rangeSize; simp; lia
end Mine
/-! M13 -/
namespace Mine
open PySem PySem.W PySem.Spec PySem.Calls PyProof.Rows PySem.SeqAt

theorem range_small {n : Int} (h0 : 0 ≤ n) (h : n < 2 ^ 31) : Builtin.Range.small 0 n 1 = true :=
  small_one (by (clear h0 h; lia)) (by (clear h0 h; lia)) (by lia) (by lia)

theorem raise_any {α : Type} {C : Cx} {A : Around} {s : Shared} {e : Addr} {oe : Obj} {ws : Array Value} {Q : α → Shared → Prop} {E : Value → Shared → Prop} (rm : A.handled = C.hd.map (fun p => Value.ref p.1)) (g : Gd C s) (he : s.heap.get? e = some oe) (hd : oe.data = .fields ws) (h2 : 2 < ws.size) (hne : ∀ p, C.hd = some p → e ≠ p.1)
    (h : ∀ h', (∀ b o, b ≠ e → s.heap.get? b = some o → h'.get? b = some o) → (∃ o', h'.get? e = some o' ∧ o'.cls = oe.cls) → E (.ref e) { s with heap := h' }) : wpAny (model C.prog C.w) A (raiseNew (.ref e) : Sem α) Q E s := by
  cases hC : C.hd with
  | none => exact wpAny_raiseNew_none (by rw [rm, hC]; rfl) (h s.heap (fun zz zz zz e => e) ⟨oe, he, rfl⟩)
  | some p =>
    obtain ⟨ep, X, vs, h1, _, _, h4, h5, _⟩ := g.hx p hC
    unfold raiseNew
    refine wpAny_bind (wpAny_handled ?_)
    rw [rm, hC]
    show wpAny _ _ (if (Value.ref p.1 != Value.ref e) = true then _ else _) Q E s
    rw [if_pos (by have := hne p hC; simp; exact fun q => this q.symm)]
    refine wpAny_bind (wpAny_holding (wpAny_runValue (codeAny_builtin (b := Builtin.«proto.unchain») (entryFor_of_fast (by kernel_rfl)) ?_)))
    show wpAny _ _ (do
      let context ← field (.ref p.1) 2
      _) _ _ _
    refine wpAny_bind (wpAny_field ep h4 h5 ?_)
    rw [if_pos (by rfl)]
    refine wpAny_bind (wpAny_pure (wpAny_pure ?_))
    refine wpAny_bind ?_
    unfold updateField
    refine wpAny_bind (wpAny_load he ?_)
    rw [hd]
    dsimp only
    rw [if_pos h2]
    have hd3 := Obj.data_mapFields hd (·.setIfInBounds 2 (Value.ref p.1))
    refine wpAny_update he (wpAny_throw (h _ (fun b o n e => (Heap.get?_update_other _ _ (Ne.symm n)).trans e) ⟨_, Heap.get?_update_self _ he (Obj.isFreed_of_fields hd3), Obj.cls_mapFields _ _⟩))

theorem rev_end {C : Cx} {A : Around} {s : Shared} {it l : Addr} {Q : Option Value → Shared → Prop} {E : Value → Shared → Prop} (rm : A.handled = C.hd.map (fun p => Value.ref p.1)) (g : Gd C s) (hit : s.heap.IsRevIter it l (-1))
    (hQ : ∀ h', Heap.ExtBut it s.heap h' → Q none { s with heap := h' }) : wpAny (model C.prog C.w) A (pyNext (.ref it)) Q E s := by
  obtain ⟨o, ho, hc, hd⟩ := id hit
  unfold pyNext
  refine wpAny_bind (wpAny_attempt (wpAny_callSpecial?_slot (name := Str.ofString "__next__") hit.typeIs PySem.F.slot_lri_next
    (wpAny_call_entry PySem.F.slot_lri_next hit.typeIs PySem.F.entry_lri_next ?_ (PySem.F.args_lri_next_1 _))))
  unfold Builtin.«list_reverseiterator.__next__»
  refine wpAny_bind (wpAny_of_eq (a := (Value.ref it, [])) rfl ?_)
  try dsimp only
  refine wpAny_bind (wpAny_field ho hd (x := rawInt (-1)) rfl ?_)
  show wpAny _ _ (if (-1 : Int) < 0 then _ else _) _ _ s
  rw [if_pos (by decide)]
  refine wpAny_bind (wpAny_rule ?_)
  first
  | show wpAny _ _ (newExc (.type "StopIteration") [] >>= _) _ _ _
  | (refine wpAny_bind ?_; show wpAny _ _ (newExc (.type "StopIteration") [] >>= _) _ _ _)
  refine wpAny_bind ?_
  simp only [newExc, newTuple]
  refine wpAny_bind (wpAny_newObj_type ?_ (by size_fits))
  refine wpAny_bind (m := firstArgMember _ _) (wpAny_of_eq (a := Value.none) (by first | rfl | (simp only [firstArgMember]; rfl)) ?_)
  refine wpAny_newObj_type ?_ (by size_fits)
  have y1 : Ex C s { s with heap := s.heap.push { cls := .type "tuple", data := .seq #[] } } := Ex.push g _
  refine raise_any rm (Ex.push y1.gd _).gd (Heap.get?_push_size _ rfl) rfl (by rw [Array.size_append]; show 2 < 6 + _; lia) (fun p hp q => ?_) fun h' hs ⟨o', e', hc'⟩ => ?_
  · have := (y1.gd.hx p hp).1
    exact no_at this get_size q.symm
  · refine wpAny_bind (wpAny_isInstance (T := "StopIteration") (b := true) ⟨_, e', hc'⟩ isSubtype_stop ?_)
    refine wpAny_pure (hQ _ fun b ob n e => hs b ob (fun q => ?_) (Heap.get?_push_of_some _ (Heap.get?_push_of_some _ e)))
    exact no_at (Heap.get?_push_of_some _ e) get_size q
section
variable {C : Cx} {F : Fx} {ρ ρ' ρ'' : Store} {K K' : Fl → Store → Prop}

noncomputable def rngs (x : Int) (n : Nat) : List D := (List.range n).map fun (j : Nat) => D.int (x + (j : Int))
theorem rngs_succ (x : Int) (n : Nat) : rngs x (n + 1) = .int x :: rngs (x + 1) n := by
  unfold rngs
  rw [List.range_succ_eq_map, List.map_cons, List.map_map]
  simp only [Int.natCast_zero, Int.add_zero, List.cons.injEq, true_and]
  apply List.map_congr_left
  intro j _
  show D.int (x + ((j + 1 : Nat) : Int)) = D.int (x + 1 + j)
  congr 1
  lia

noncomputable def iterRange (C : Cx) (h0' : C.hd = none) : Iter C [] where
  P := fun o r => ∃ (x : Int) (n : Nat), o = { cls := .type "range_iterator", data := .fields #[rawInt x, rawInt n, rawInt 1] } ∧ r = rngs x n
  code := by rintro o r ⟨x, n, rfl, _⟩ vs q c t e; cases q; cases e
  done := by
    rintro A hid s it o Q E rm g bd se hh hoff hgh e ⟨x, n, rfl, hr⟩ q
    have hn : n = 0 := by
      cases n with
      | zero => rfl
      | succ n => rw [rngs_succ] at hr; cases hr
    subst hn
    exact wpAny_pyNext_range_end (rm.h0 h0') e (by lia) fun h' hx => q _ (g.same hoff e (by intro vs q c t e; cases q; cases e) hgh hx) (fun b ob n zz e => hx b ob n e) (fun zz zz e => e)
  more := by
    rintro A hid s it o d r Q E rm g bd se hh hoff hgh e ⟨x, n, rfl, hr⟩ q
    cases n with
    | zero => cases hr
    | succ n =>
      rw [rngs_succ] at hr
      obtain ⟨rfl, hr2⟩ := List.cons.inj hr
      have hp : (0 : Int) < ((n + 1 : Nat) : Int) := Int.natCast_pos.mpr (Nat.succ_pos n)
      refine wpAny_pyNext_range_item e (by first | exact hp | exact Int.natCast_succ_pos n) fun h' hit hs => ?_
      exact q _ _ _ (g.same hoff e (by intro vs q c t e; cases q; cases e) hgh hs.extBut) (keep_same hs) hit ⟨x + 1, n, by rw [show ((n + 1 : Nat) : Int) - 1 = n from succ_sub n], hr2⟩ (fun zz zz e => e) (.int _ _)
  go := fun A s it o r tg v Q E e ⟨x, n, ho, _⟩ q => go_of (T := "range_iterator") e (by rw [ho]) (by decide +kernel) q

theorem evit_range {e : Expr} {np pos : Pos} {n : Nat} (h : Ev C F ρ e (.int n)) (hn : n < 2 ^ 31) (h0' : C.hd = none) (hm : C.mg (Str.ofString "range") = none) (hk : F.env.kindOf (Str.ofString "range") = some .globalImplicit)
    (he : backTo pos (starEach [e] F.env) = [(false, eval e F.env)] := by rfl) : EvIt C F ρ (.Call (.Name (Str.ofString "range") np) [e] [] pos) (rngs 0 n) := .mk fun W s Q E f q =>
  wpAny_Call_NameR (builtin_any f hk hm (v := .type "range") (by with_unfolding_all rfl) (by
    rw [he]
    refine PySem.callWith_type1 (h.go W s _ _ f fun v s₁ x r => ?_)
    obtain ⟨t, rfl⟩ := r.int_inv
    refine call_range_1 ?_
    refine wpAny_pyIter_range (r := s₁.heap.objs.size) (Heap.get?_push_size _ rfl) (range_small (by lia) (by lia)) ?_
    have y1 : Ex C s₁ { s₁ with heap := s₁.heap.push { cls := .type "range", data := .fields #[.int 0 s₁.toks, .int n t, .int 1 (s₁.toks + 1)] }, toks := s₁.toks + 1 + 1 } := Ex.push x.gd _
    have hz : Builtin.Range.rangeSize 0 n 1 = n := fdiv_one_range n (by lia)
    rw [hz]
    refine q [] (iterRange C h0') _ _ _ ((x.trans y1).trans (Ex.push y1.gd _)) ?_ (Heap.get?_push_size _ rfl) ⟨0, n, rfl, rfl⟩ (fun p hp => nomatch hp)
    have xx := x.trans y1
    cases q0 : s.heap.get? (s₁.heap.push ({ cls := .type "range", data := .fields #[.int 0 s₁.toks, .int n t, .int 1 (s₁.toks + 1)] } : Obj)).objs.size with
    | none => rfl
    | some o => exact absurd (Bd.ex (hid := fun a => a = (s₁.heap.push ({ cls := .type "range", data := .fields #[.int 0 s₁.toks, .int n t, .int 1 (s₁.toks + 1)] } : Obj)).objs.size) (fun a q1 => ⟨o, q1 ▸ q0⟩) xx _ rfl) (fun ⟨o', e⟩ => no_at e get_size rfl)) (by decide) (by decide))

noncomputable def iterRev (C : Cx) (l : Addr) (ds : List D) : Iter C [(.ref l, .lst ds)] where
  P := fun o r => ∃ i : Nat, o.cls = .type "list_reverseiterator" ∧ o.data = .fields #[.ref l, rawInt ((i : Int) - 1)] ∧ i ≤ ds.length ∧ r = (ds.take i).reverse
  code := by rintro o r ⟨i, _, hd, _⟩ vs q c t e; rw [hd] at q; cases q; cases e
  done := by
    rintro A hid s it o Q E rm g bd se hh hoff hgh e ⟨i, hc, hd, hi, hr⟩ q
    have hi0 : i = 0 := by
      have h1 := congrArg List.length hr
      rw [List.length_nil, List.length_reverse, List.length_take, Nat.min_eq_left hi] at h1
      exact h1.symm
    subst hi0
    refine rev_end (l := l) rm.1 g ⟨o, e, hc, hd⟩ fun h' hx => ?_
    have nc : NoCode o := by intro vs q c t e; rw [hd] at q; cases q; cases e
    exact q _ (g.same hoff e nc hgh hx) (fun b ob n zz e => hx b ob n e) (fun zz zz e => e)
  more := by
    rintro A hid s it o d r Q E rm g bd se hh hoff hgh e ⟨i, hc, hd, hi, hr⟩ q
    obtain ⟨ol, vs, n, e1, q1, r1⟩ := (se _ (.head _)).lst_at
    cases i with
    | zero => cases hr
    | succ i =>
      have hlt : i < ds.length := hi
      have ht : ds.take (i + 1) = ds.take i ++ [ds[i]] := by rw [List.take_add_one, List.getElem?_eq_getElem hlt]; rfl
      rw [ht, List.reverse_append] at hr
      obtain ⟨rfl, hr2⟩ := List.cons.inj hr
      obtain ⟨v, ev, rv⟩ := r1.get (List.getElem?_eq_getElem hlt)
      have nc : NoCode o := by intro vs q c t e; rw [hd] at q; cases q; cases e
      have hi' : (((i + 1 : Nat) : Int) - 1) = (i : Int) := succ_sub i
      rw [hi'] at hd
      refine wpAny_pyNext_rev_item (i := i) ⟨o, e, hc, hd⟩ (q1.isList (T := "list") e1) (by rw [List.getElem?_toArray]; exact ev) fun h' hit hs => ?_
      obtain ⟨o', e', hc', hd'⟩ := hit
      exact q v _ o' (g.same hoff e nc hgh hs.extBut) (keep_same hs) e' ⟨i, hc', hd', Nat.le_of_lt hlt, hr2⟩ (fun zz zz e => e) (rv.same hh hs.extBut)
  go := fun A s it o r tg v Q E e ⟨i, hc, _⟩ q => go_of e hc (by decide +kernel) q
theorem evit_rev {e : Expr} {np pos : Pos} {ds : List D} (h : Ev C F ρ e (.lst ds)) (hm : C.mg (Str.ofString "reversed") = none) (hk : F.env.kindOf (Str.ofString "reversed") = some .globalImplicit)
    (he : backTo pos (starEach [e] F.env) = [(false, eval e F.env)] := by rfl) : EvIt C F ρ (.Call (.Name (Str.ofString "reversed") np) [e] [] pos) ds.reverse := .mk fun W s Q E f q =>
  wpAny_Call_NameR (builtin_any f hk hm (v := .type "reversed") (by with_unfolding_all rfl) (by
    rw [he]
    refine PySem.callWith_type1 (h.go W s _ _ f fun v s₁ x r => ?_)
    obtain ⟨l, o, vs, rfl, n, e1, q1, r1⟩ := r.lst_inv
    have hl := r1.length
    refine call_reversed_list (q1.isList (T := "list") e1) ?_
    have y1 : Ex C s₁ { s₁ with heap := s₁.heap.push (revObj l ((vs.toArray.size : Int) - 1)) } := Ex.push x.gd _
    have eit : ({ s₁ with heap := s₁.heap.push (revObj l ((vs.toArray.size : Int) - 1)) } : Shared).heap.get? s₁.heap.objs.size = some (revObj l ((vs.toArray.size : Int) - 1)) := Heap.get?_push_size _ rfl
    have hT : ({ s₁ with heap := s₁.heap.push (revObj l ((vs.toArray.size : Int) - 1)) } : Shared).TypeIs (.ref s₁.heap.objs.size) "list_reverseiterator" := ⟨_, eit, rfl⟩
    refine wpAny_pyIter_slot hT PySem.F.slot_lri_iter (wpAny_call_entry PySem.F.slot_lri_iter hT PySem.F.entry_lri_iter ?_ (PySem.F.args_lri_iter_1 _))
    show wpAny _ _ (ret (.ref s₁.heap.objs.size)) _ _ _
    refine wpAny_pure ⟨_, rfl, "list_reverseiterator", _, hT, PySem.F.slot_lri_next.lookup, ?_⟩
    have fr : s₁.heap.get? s₁.heap.objs.size = none := get_size
    refine q _ (iterRev C l ds) _ _ _ (x.trans y1) ?_ eit ⟨ds.length, rfl, by rw [List.size_toArray, hl]; rfl, Nat.le_refl _, by rw [List.take_length]⟩ fun p hp => ?_
    · cases q0 : s.heap.get? s₁.heap.objs.size with
      | none => rfl
      | some o => exact absurd (Bd.ex (hid := fun a => a = s₁.heap.objs.size) (fun a q1 => ⟨o, q1 ▸ q0⟩) x _ rfl) (fun ⟨o', e⟩ => no_at e get_size rfl)
    · rcases List.mem_cons.mp hp with rfl | hp
      · exact (Rp.hide get_size r).ex x.gd y1
      · cases hp) (by decide) (by decide))
end
end Mine
/-! M14 -/
namespace Mine
open PySem PySem.W PySem.Spec PySem.Calls PyProof.Rows PySem.SeqAt

section
variable {C : Cx} {F : Fx} {ρ ρ' ρ'' : Store} {K K' : Fl → Store → Prop}

theorem vl {x : Str} {p : Pos} {d : D} (h : ρ.lookup x = some (.val d) := by rfl) (hl : F.env.kindOf x = some .local := by rfl) (hd : (x == ("__debug__" : Str)) = false := by decide) : Ev C F ρ (.Name x p) d := ev_local h hl hd

theorem as_sub {tg : Expr} {d : D} (hs : Sub ρ' ρ) (h : As C F tg d ρ' ρ'') : As C F tg d ρ ρ'' := .mk fun W s v Q E f r q => h.go W s v Q E (f.sub hs) r q

/-- while: the store by a state -/
theorem ws_while {α : Type} {test : Expr} {body rest : List Stmt} {p : Pos} (σ : α → Store) (μ : α → Nat) (P : α → Prop) (a₀ : α) (h0 : Sub (σ a₀) ρ) (hp : P a₀)
    (turn : ∀ a, P a → ∃ b, Ts C F (σ a) test b ∧ (b = true → Ws C F (σ a) body (fun fl ρ₃ => match fl with | .next | .cont => ∃ a', μ a' < μ a ∧ P a' ∧ Sub (σ a') ρ₃ | .brk => Ws C F ρ₃ rest K | .ret d => K (.ret d) ρ₃)) ∧ (b = false → Ws C F (σ a) rest K)) :
    Ws C F ρ (.While test body [] p :: rest) K := by
  refine ws_cons (w1_while (fun n ρ' => ∃ a, μ a = n ∧ P a ∧ Sub (σ a) ρ') (μ a₀) ⟨a₀, rfl, hp, h0⟩ ?_)
  rintro n ρ' ⟨a, rfl, pa, hS⟩
  obtain ⟨b, ht, h1, h2⟩ := turn a pa
  refine ⟨b, .mk fun W s Q E f q => ht.go W s Q E (f.sub hS) q, fun hb => ws_sub hS (ws_mono (h1 hb) fun fl ρ₃ h => ?_), fun hb => ws_sub hS (h2 hb)⟩
  cases fl with
  | next => obtain ⟨a', x, y, z⟩ := h; exact ⟨_, x, a', rfl, y, z⟩
  | cont => obtain ⟨a', x, y, z⟩ := h; exact ⟨_, x, a', rfl, y, z⟩
  | brk => exact h
  | ret _ => exact h

/-! swapped stores -/
theorem store_names : ∀ {names : List Str} {vs : List Value} {ds : List D} {ρ : Store} {W : Wt} {s : Shared} {Q : Unit → Shared → Prop} {E : Value → Shared → Prop}, (∀ n ∈ names, F.env.kindOf n = some .local) → names.length = ds.length → Frm C F W ρ s → Rps W.hid s.heap vs ds →
    (∀ W' s', Frm C F W' ((names.zip (ds.map Sl.val)).reverse ++ ρ) s' → Q () s') → wpAny (model C.prog C.w) F.A (assignInOrder (names.map fun n => bindName F.env n) vs) Q E s := by
  intro names
  induction names with
  | nil =>
    intro vs ds ρ W s Q E hl hn f r q
    cases ds with
    | nil => cases r; exact assignInOrder_nil (q W s f)
    | cons _ _ => cases hn
  | cons n names ih =>
    intro vs ds ρ W s Q E hl hn f r q
    cases ds with
    | nil => cases hn
    | cons d ds =>
      cases r with
      | cons a r =>
        refine assignInOrder_cons (bindName_ (store_val f (hl n (.head _)) a fun W' s' f' hh k => ?_))
        refine ih (fun n h => hl n (.tail _ h)) (Nat.succ.inj hn) f' (r.map fun v d q => by rw [hh]; exact k v d q) fun W'' s'' f'' => q W'' s'' ?_
        rw [List.map_cons, List.zip_cons_cons, List.reverse_cons, List.append_assoc]
        exact f''
theorem w1_swap {ts : List Expr} {k : Nat} {tp p : Pos} {e : Expr} {ds : List D} (names : List Str) (he : Ev C F ρ e (.tup ds)) (hl : ∀ n ∈ names, F.env.kindOf n = some .local) (hn : names.length = ds.length)
    (hw : swappedStores [.Tuple ts k tp] e F.env = pure (some names)) (h : K .next ((names.reverse.zip (ds.reverse.map Sl.val)).reverse ++ ρ)) (hs : swapsWithSole [.Tuple ts k tp] e p.line F.env = pure false := by rfl) (h0' : C.hd = none := by assumption) :
    W1 C F ρ (.Assign [.Tuple ts k tp] e p) K := .mk fun W s f =>
  Assign_Tuple_swapped (he.go W s _ _ f fun v s₁ x₁ r => by
    obtain ⟨a, o, vs, rfl, n, e1, q1, r1⟩ := r.tup_inv
    have hlen := r1.length
    have hsz : names.length = vs.toArray.size := by rw [List.size_toArray, hlen, hn]
    rw [hsz]
    refine unpackItems_tuple (f.rm.h0 h0') (q1.isTup e1) fun h' hx => ?_
    have x : Ex C s₁ { s₁ with heap := h' } := Ex.of_keeps x₁.gd fun b o e => hx b o (fun q => no_at e get_size q) e
    refine store_names (names := names.reverse) (ds := ds.reverse) (fun n h => hl n (List.mem_reverse.mp h)) (by rw [List.length_reverse, List.length_reverse, hn]) ((f.ex x₁).ex x) ((r1.ex x₁.gd x).reverse) fun W' s' f' => ⟨W', _, _, f', .next, h⟩) hs hw
end
end Mine
/-! M15 -/
namespace Mine
open PySem PySem.W PySem.Spec PySem.Calls PyProof.Rows PySem.SeqAt

theorem pick_run' {α : Type} (ds : List α) (a b : Nat) : ((List.range b).map (a + ·)).filterMap (ds[·]?) = (ds.drop a).take b := by
  have h := pick_run ds.toArray a b
  simpa using h
theorem pick_gen (ds : List D) (lo hi : Option Int) : pickD ds lo hi none = (ds.drop (kms_lo lo ds.length)).take (kms_hi hi ds.length - kms_lo lo ds.length) := by
  unfold pickD
  rw [kms_bounds]
  simp only [sliceRange_one, pick_run']
theorem pick_from (ds : List D) (k : Nat) : pickD ds (some (k : Int)) none none = ds.drop k := by
  rw [pick_gen]
  simp only [kms_lo, kms_hi, if_neg (nn k), Int.toNat_natCast]
  rw [kmk_drop_min, List.take_of_length_le (by rw [List.length_drop]; exact Nat.sub_le_sub_left (Nat.min_le_left k _) _)]
theorem pick_fromto (ds : List D) (k m : Nat) : pickD ds (some (k : Int)) (some (m : Int)) none = (ds.drop k).take (m - k) := by
  rw [pick_gen]
  simp only [kms_lo, kms_hi, if_neg (nn k), if_neg (nn m), Int.toNat_natCast]
  rw [kmk_drop_min]
  exact take_min ds k m
theorem pick_rev (ds : List D) : pickD ds none none (some (-1)) = ds.reverse := by
  unfold pickD
  rw [krv_bounds]
  show ((sliceRange ((ds.length : Int) - 1) (-1) (-1)).filterMap (ds[·]?)) = _
  rw [krv_sliceRange, krv_range, List.filterMap_reverse]
  congr 1
  have h := pick_run' ds 0 ds.length
  have e : (List.range ds.length).map (0 + ·) = List.range ds.length := by
    rw [show ((0 + ·) : Nat → Nat) = id from funext fun k => Nat.zero_add k, List.map_id]
  rw [e, List.drop_zero, List.take_of_length_le (Nat.le_refl _)] at h
  exact h

section
variable {C : Cx} {F : Fx} {ρ ρ' ρ'' : Store} {K K' : Fl → Store → Prop}
theorem slc_from {ds : List D} {k : Nat} (hz : ds.length ≤ sizeLine) : Slc C (.lst ds) (some (k : Int)) none none (.lst (ds.drop k)) := by
  rw [← pick_from]; exact slc_list nofun hz
theorem slc_fromto {ds : List D} {k m : Nat} (hz : ds.length ≤ sizeLine) : Slc C (.lst ds) (some (k : Int)) (some (m : Int)) none (.lst ((ds.drop k).take (m - k))) := by
  rw [← pick_fromto]; exact slc_list nofun hz
theorem slc_rev {ds : List D} (hz : ds.length ≤ sizeLine) : Slc C (.lst ds) none none (some (-1)) (.lst ds.reverse) := by
  rw [← pick_rev]; exact slc_list (by decide) hz
end

/-! rows -/
noncomputable abbrev rowD (r : Int × Str) : D := .tup [.int r.1, .str r.2]
noncomputable abbrev rowsD (rs : List (Int × Str)) : D := .lst (rs.map rowD)

noncomputable def pieceN : Nat → Str
  | 0 => ""
  | 1 => "\\\""
  | 2 => "\\\\"
  | 3 => "\x0c"
  | _ => "\\\\\\\""
noncomputable def pieceOf (cell : Int) : Str := pieceN (cell.fmod 5).toNat
noncomputable def bump (h : List Int) : List Int := h.set (h.length - 1) (h.getD (h.length - 1) 0 + 1)
noncomputable def colsFrom : List Int → List (Int × Str) → List Int
  | h, [] => h
  | h, r :: rs => colsFrom (bump h ++ List.replicate (r.1 - 1).toNat 1) rs
noncomputable def colsOf : List (Int × Str) → List Int
  | [] => []
  | r :: rs => colsFrom (List.replicate r.1.toNat 1) rs
theorem lI_rep (n : Nat) (i : Int) : (List.replicate n [D.int i]).flatten = lI (List.replicate n i) := by
  induction n with
  | zero => rfl
  | succ n ih => rw [List.replicate_succ, List.replicate_succ, List.flatten_cons, ih]; rfl
theorem lI_append (a b : List Int) : lI (a ++ b) = lI a ++ lI b := List.map_append
theorem lI_set (a : List Int) (k : Nat) (i : Int) : lI (a.set k i) = (lI a).set k (.int i) := List.map_set
theorem bump_len (h : List Int) : (bump h).length = h.length := List.length_set
end Mine
/-! M16 -/
namespace Mine
open PySem PySem.W PySem.Spec PySem.Calls PyProof.Rows PySem.SeqAt

section
variable {C : Cx} {F : Fx} {ρ ρ' ρ'' : Store} {K K' : Fl → Store → Prop}

/-- the pairs of a display whose keys are texts -/
inductive KvL (C : Cx) (F : Fx) (ρ : Store) : List (Option Expr) → List Expr → List (Str × D) → Prop
  | nil : KvL C F ρ [] [] []
  | cons {x : Str} {k : Nat} {p : Pos} {v : Expr} {ks : List (Option Expr)} {vs : List Expr} {d : D} {r : List (Str × D)} : Ev C F ρ v d → KvL C F ρ ks vs r → KvL C F ρ (some (.Constant (.str x) k p) :: ks) (v :: vs) ((x, d) :: r)
theorem KvL.shape {ks : List (Option Expr)} {vs : List Expr} {r : List (Str × D)} (h : KvL C F ρ ks vs r) : ks.all (·.isSome) = true ∧ ks.length = vs.length ∧ ks.length = r.length := by
  induction h with
  | nil => exact ⟨rfl, rfl, rfl⟩
  | cons _ _ ih => exact ⟨by rw [List.all_cons, ih.1]; rfl, by simp [ih.2.1], by simp [ih.2.2]⟩
inductive KvR (hid : Addr → Prop) (h : Heap) : List (Value × Value) → List (Str × D) → Prop
  | nil : KvR hid h [] []
  | cons {x : Str} {t : Tok} {v : Value} {d : D} {vs : List (Value × Value)} {r : List (Str × D)} : Rp hid h v d → KvR hid h vs r → KvR hid h ((.str x t, v) :: vs) ((x, d) :: r)
theorem KvR.ex {hid : Addr → Prop} {s s' : Shared} {vs : List (Value × Value)} {r : List (Str × D)} (g : Gd C s) (x : Ex C s s') (h : KvR hid s.heap vs r) : KvR hid s'.heap vs r := by
  induction h with
  | nil => exact .nil
  | cons a _ ih => exact .cons (a.ex g x) ih
theorem KvR.facts {hid : Addr → Prop} {h : Heap} {vs : List (Value × Value)} {r : List (Str × D)} (q : KvR hid h vs r) : allStrKeys vs = true ∧ (strPairs vs).map (·.1) = r.map (·.1) ∧ ∀ x d, r.lookup x = some d → ∃ v, valueAt (strPairs vs) x = some v ∧ Rp hid h v d := by
  induction q with
  | nil => exact ⟨rfl, rfl, nofun⟩
  | @cons x t v d vs r a q ih =>
    refine ⟨ih.1, by simp only [strPairs, List.map_cons, ih.2.1], fun y e h => ?_⟩
    rw [List.lookup_cons] at h
    simp only [strPairs, valueAt, List.find?_cons]
    cases hy : y == x with
    | true =>
      rw [hy] at h; cases h
      have : y = x := beq_iff_eq.mp hy
      subst this
      refine ⟨v, ?_, a⟩
      simp
    | false =>
      rw [hy] at h
      have hne : ¬ x = y := fun q => by rw [q] at hy; simp at hy
      obtain ⟨w, e1, r1⟩ := ih.2.2 y e h
      refine ⟨w, ?_, r1⟩
      rw [decide_eq_false hne]
      exact e1
theorem KvL.go {ks : List (Option Expr)} {vs : List Expr} {r : List (Str × D)} (h : KvL C F ρ ks vs r) : ∀ {W : Wt} {s : Shared} {pos : Pos} {Q : List (Value × Value) → Shared → Prop} {E : Value → Shared → Prop}, Frm C F W ρ s → (∀ us s', Ex C s s' → KvR W.hid s'.heap us r → Q us s') →
    wpAny (model C.prog C.w) F.A (evalPairs (pairTrees ks vs F.env pos)) Q E s := by
  induction h with
  | nil => intro W s pos Q E f q; exact pairTrees_nil_walk (q [] s (Ex.refl f.gd) .nil)
  | @cons x k p v ks vs d r hv _ ih =>
    intro W s pos Q E f q
    refine pairTrees_cons_walk ((ev_str (F := F) (ρ := ρ)).go W s _ _ f fun kv s₁ x₁ r₁ => hv.go W s₁ _ _ (f.ex x₁) fun vv s₂ x₂ r₂ => ih ((f.ex x₁).ex x₂) fun us s₃ x₃ r₃ => ?_)
    obtain ⟨t, rfl⟩ := r₁.str_inv
    exact q _ _ ((x₁.trans x₂).trans x₃) (.cons (r₂.ex x₂.gd x₃) r₃)

theorem ev_dispsub {ks : List (Option Expr)} {vs : List Expr} {dp p : Pos} {i : Expr} {r : List (Str × D)} {x : Str} {d : D} (h : KvL C F ρ ks vs r) (hi : Ev C F ρ i (.str x)) (hx : r.lookup x = some d) (hn : (r.map (·.1)).Nodup) (h0 : ks ≠ []) (hlen : ks.length ≤ 15) :
    Ev C F ρ (.Subscript (.Dict ks vs dp) i p) d := .mk fun W s Q E f q =>
  Subscript_ (by
    have hs := h.shape
    have y0 : Ex C s { s with heap := s.heap.push { cls := .type "dict", data := .dict #[] } } := Ex.push f.gd _
    have fr : s.heap.get? s.heap.objs.size = none := get_size
    have f₁ := f.hide y0 fr ⟨_, Heap.get?_push_size _ rfl⟩
    refine wpAny_Dict_walk (knd := strKind C.prog C.w) hs.1 hs.2.1 h0 hlen (h.go f₁ fun us s₁ x₁ kr => ?_)
    obtain ⟨g1, g2, g3⟩ := kr.facts
    have e0 : s₁.heap.get? s.heap.objs.size = some { cls := .type "dict", data := .dict #[] } := x₁.keep _ _ (y0.gd.off (Heap.get?_push_size _ rfl) (fun zz q => by cases q)) (Heap.get?_push_size _ rfl)
    refine display_done_str g1 (by rw [g2]; exact hn) ⟨_, #[], 0, e0, ⟨rfl, rfl, rfl⟩, rfl, fun zz he => by simp at he, Pairs.nil, List.nodup_nil⟩ fun h' hd hsb => ?_
    have xk : Ex C s { s₁ with heap := h', toks := s₁.toks + us.length } := by
      have x1 := y0.trans x₁
      have g' : Gd C { s₁ with heap := h', toks := s₁.toks + us.length } := x1.gd.same (off_of_new f.gd fr) e0 (fun vs q => by cases q) (by
        cases q : C.gh.get? s.heap.objs.size with
        | none => rfl
        | some o => exact no_at (f.gd.keep _ _ q) fr rfl) hsb.extBut
      exact ⟨g', fun b o n e => hsb.extBut b o (fun q => no_at e fr q) (x1.keep b o n e), x1.gens⟩
    obtain ⟨v, hv, rv⟩ := g3 x d hx
    have rv' : Rp W.hid h' v d := (rv.same (a := s.heap.objs.size) (.inr rfl) hsb.extBut).less fun zz q => .inl q
    refine hi.go W _ _ _ (f.ex xk) fun iv s₂ x₂ ri => ?_
    obtain ⟨t, rfl⟩ := ri.str_inv
    have hm : s₂.heap.MapOf (strKind C.prog C.w) s.heap.objs.size (valueAt (strPairs us)) := by
      obtain ⟨o, es, ep, ho, hc, hdat, hk, hf⟩ := hd.mapOf
      exact ⟨o, es, ep, x₂.keep _ _ (xk.gd.off ho (fun zz q => by rw [hdat] at q; cases q)) ho, hc, hdat, hk, hf⟩
    obtain ⟨ops, eo⟩ := sub_ops i (.ref s.heap.objs.size) (.str x t)
    refine tail_any hm.typeIs slot_dict_getitem.lookup (wpAny_getItem_of (strKind_is _ _ x t) hm hv (q _ _ ((xk.trans x₂).trans (Ex.toks x₂.gd)) (rv'.ex xk.gd (x₂.trans (Ex.toks x₂.gd))))) eo)

/-- a table of the base's -/
structure Tk (C : Cx) (x : Str) (f : Str → Option Int) : Prop where
  at_ : ∃ d g, C.mg x = some (.ref d) ∧ C.gh.MapOf (strKind C.prog C.w) d g ∧ (d == sysModules) = false ∧ ∀ k, (f k = none ∧ g k = none) ∨ ∃ i t, f k = some i ∧ g k = some (.int i t)
theorem Tk.map {x : Str} {f : Str → Option Int} (h : Tk C x f) {s : Shared} (g : Gd C s) : ∃ d g, C.mg x = some (.ref d) ∧ s.heap.MapOf (strKind C.prog C.w) d g ∧ (d == sysModules) = false ∧ ∀ k, (f k = none ∧ g k = none) ∨ ∃ i t, f k = some i ∧ g k = some (.int i t) := by
  obtain ⟨d, g', h1, ⟨o, es, ep, ho, r⟩, h3⟩ := h.at_
  exact ⟨d, g', h1, ⟨o, es, ep, g.keep _ _ ho, r⟩, h3⟩
theorem ts_in_tk {x k : Str} {f : Str → Option Int} {e : Expr} {np p : Pos} (h : Tk C x f) (he : Ev C F ρ e (.str k)) (hx : F.env.kindOf x = some .globalImplicit) (hd : (x == ("__debug__" : Str)) = false := by decide) (hm : behindInMarks .In (.Name x np) = false := by with_unfolding_all rfl) : Ts C F ρ (.Compare e [.In] [.Name x np] p) (f k).isSome := .mk fun W s Q E fr q =>
  wpAny_isTrue_Compare1 (hm := hm) (he.go W s _ _ fr fun v s₁ x₁ r₁ => by
    obtain ⟨t, rfl⟩ := r₁.str_inv
    obtain ⟨d, g, h1, h2, h3, h4⟩ := h.map x₁.gd
    refine global_any (fr.ex x₁) hx h1 (wpAny_in_of (strKind_is _ _ k t) h3 h2 ?_) hd
    have : (g k).isSome = (f k).isSome := by rcases h4 k with ⟨a, b⟩ | ⟨i, t, a, b⟩ <;> rw [a, b] <;> rfl
    rw [this]
    exact wpAny_truthy_bool (q _ (x₁.trans (Ex.toks x₁.gd))))
theorem ts_notin_tk {x k : Str} {f : Str → Option Int} {e : Expr} {np p : Pos} (h : Tk C x f) (he : Ev C F ρ e (.str k)) (hx : F.env.kindOf x = some .globalImplicit) (hd : (x == ("__debug__" : Str)) = false := by decide) (hm : behindInMarks .NotIn (.Name x np) = false := by with_unfolding_all rfl) : Ts C F ρ (.Compare e [.NotIn] [.Name x np] p) (!(f k).isSome) := .mk fun W s Q E fr q =>
  wpAny_isTrue_Compare1 (hm := hm) (he.go W s _ _ fr fun v s₁ x₁ r₁ => by
    obtain ⟨t, rfl⟩ := r₁.str_inv
    obtain ⟨d, g, h1, h2, h3, h4⟩ := h.map x₁.gd
    refine global_any (fr.ex x₁) hx h1 (wpAny_notIn_of (strKind_is _ _ k t) h3 h2 ?_) hd
    have : (g k).isSome = (f k).isSome := by rcases h4 k with ⟨a, b⟩ | ⟨i, t, a, b⟩ <;> rw [a, b] <;> rfl
    rw [this]
    exact wpAny_truthy_bool (q _ (x₁.trans (Ex.toks x₁.gd))))
theorem ev_sub_tk {x k : Str} {f : Str → Option Int} {e : Expr} {np p : Pos} {i : Int} (h : Tk C x f) (he : Ev C F ρ e (.str k)) (hv : f k = some i) (hx : F.env.kindOf x = some .globalImplicit) (hd : (x == ("__debug__" : Str)) = false := by decide) : Ev C F ρ (.Subscript (.Name x np) e p) (.int i) := .mk fun W s Q E fr q =>
  Subscript_ (by
    obtain ⟨d, g, h1, _⟩ := h.map fr.gd
    refine global_any fr hx h1 (he.go W s _ _ fr fun v s₁ x₁ r₁ => ?_) hd
    obtain ⟨t, rfl⟩ := r₁.str_inv
    obtain ⟨d', g, h1', h2, h3, h4⟩ := h.map x₁.gd
    rw [h1] at h1'; cases h1'
    obtain ⟨ops, eo⟩ := sub_ops e (.ref d) (.str k t)
    rcases h4 k with ⟨a, b⟩ | ⟨j, u, a, b⟩
    · rw [hv] at a; cases a
    · rw [hv] at a; cases a
      exact tail_any h2.typeIs slot_dict_getitem.lookup (wpAny_getItem_of (strKind_is _ _ k t) h2 b (q _ _ (x₁.trans (Ex.toks x₁.gd)) (.int _ _))) eo)

/-- three texts and a new list -/
theorem w1_assign_sssl {x1 x2 x3 x4 : Str} {p1 p2 p3 p4 q1 q2 q3 q4 tp vp p : Pos} {k k1 k2 k3 k' : Nat} {a1 a2 a3 : Str} (hl1 : F.env.kindOf x1 = some .local) (hl2 : F.env.kindOf x2 = some .local) (hl3 : F.env.kindOf x3 = some .local) (hl4 : F.env.kindOf x4 = some .local)
    (h : K .next ((x4, .own []) :: (x3, .val (.str a3)) :: (x2, .val (.str a2)) :: (x1, .val (.str a1)) :: ρ)) (hne : x4 ≠ x1 ∧ x4 ≠ x2 ∧ x4 ≠ x3) (h0' : C.hd = none := by assumption)
    (hs : swapsWithSole [.Tuple [.Name x1 p1, .Name x2 p2, .Name x3 p3, .Name x4 p4] k tp] (.Tuple [.Constant (.str a1) k1 q1, .Constant (.str a2) k2 q2, .Constant (.str a3) k3 q3, .List [] q4] k' vp) p.line F.env = pure false := by rfl)
    (hw : swappedStores [.Tuple [.Name x1 p1, .Name x2 p2, .Name x3 p3, .Name x4 p4] k tp] (.Tuple [.Constant (.str a1) k1 q1, .Constant (.str a2) k2 q2, .Constant (.str a3) k3 q3, .List [] q4] k' vp) F.env = pure none := by rfl) :
    W1 C F ρ (.Assign [.Tuple [.Name x1 p1, .Name x2 p2, .Name x3 p3, .Name x4 p4] k tp] (.Tuple [.Constant (.str a1) k1 q1, .Constant (.str a2) k2 q2, .Constant (.str a3) k3 q3, .List [] q4] k' vp) p) K := .mk fun W s f =>
  Assign_Tuple (Tuple_ (by
    refine Calls.spliced_cons (x := eval (.Constant (.str a1) k1 q1) F.env) (Constant_str ?_)
    refine Calls.spliced_cons (x := eval (.Constant (.str a2) k2 q2) F.env) (Constant_str ?_)
    refine Calls.spliced_cons (x := eval (.Constant (.str a3) k3 q3) F.env) (Constant_str ?_)
    refine Calls.spliced_cons (x := eval (.List [] q4) F.env) ?_
    have y : Ex C s { s with toks := s.toks + 1 + 1 + 1 } := Ex.toks f.gd
    refine (evnew_list (F := F) (ρ := ρ) (es := []) (ds := []) (evs_nil)).go W _ _ _ (f.ex y) fun a vs n s₁ x₁ h1 h2 r => ?_
    refine Calls.spliced_nil ?_
    let F₁ := F.on ((a, ({ cls := .type "list", data := .seq vs n } : Obj)) :: F.pins) ([] ++ F.seen)
    have f₁ : Frm C F₁ _ ρ s₁ := (f.ex y).pin (src := []) x₁ h1 h2 (fun vs q => by cases q) allN
    refine wpAny_newObj_type ?_ (by show 4 ≤ sizeLine; decide)
    have y2 := Ex.push (tk := s₁.toks) f₁.gd ({ cls := .type "tuple", data := .seq #[.str a1 s.toks, .str a2 (s.toks + 1), .str a3 (s.toks + 1 + 1), .ref a] } : Obj)
    have f₂ := f₁.ex y2
    refine wpAny_assign_Tuple (items := #[.str a1 s.toks, .str a2 (s.toks + 1), .str a3 (s.toks + 1 + 1), .ref a]) (f.rm.h0 h0') ⟨_, Heap.get?_push_size _ rfl, rfl, _, rfl⟩ rfl rfl fun h' hx => ?_
    have xh := Ex.of_keeps (tk := s₁.toks) f₂.gd fun b o e => hx b o (fun q => no_at e get_size q) e
    have f₃ := f₂.ex xh
    refine assignInOrder_cons (wpAny_assign_Name (store_val (F := F₁) f₃ hl1 (.str _ _) fun W₄ s₄ f₄ hh₄ zz => ?_))
    refine assignInOrder_cons (wpAny_assign_Name (store_val (F := F₁) f₄ hl2 (.str _ _) fun W₅ s₅ f₅ hh₅ zz => ?_))
    refine assignInOrder_cons (wpAny_assign_Name (store_val (F := F₁) f₅ hl3 (.str _ _) fun W₆ s₆ f₆ hh₆ zz => ?_))
    have m := f₆.pins (a, _) (.head _)
    have mc := f₆.pcell (a, _) (.head _)
    have f₇ : Frm C F W₆ _ s₆ := f₆.unpin (src := [])
    have hvs : Rps (fun b => W.hid b ∨ b = a) s₁.heap vs.toList [] := r
    have hve : vs.toList = [] := by
      generalize vs.toList = l at hvs
      cases hvs; rfl
    have ho : Own F W₆ s₆.heap (.ref a) [] := ⟨a, vs, n, rfl, m.1, by rw [hve]; exact .nil, m.2.2.1, m.2.2.2.2.1, m.2.2.2.1, fun x c e q => mc x c e q.symm, fun p hp q => f₆.pin_ne p hp q.symm⟩
    refine assignInOrder_cons (wpAny_assign_Name (wpAny_storeName_local hl4 f₇.ns (fun h' hn hs => assignInOrder_nil ⟨_, _, .next, f₇.put (sl := .own []) hl4 ho (fun es zz z es' hz e1 e2 => ?_) hn hs, .next, h⟩) (stp f.kind)))
    -- no other name holds it
    obtain ⟨v6, g1, b, us, k6, q1', q2', q3', q4', q5', q6', q7', q8'⟩ := f₆.owns z es' e1
    rw [q1', show W₆.get F.env z = some (.ref a) from e2] at g1
    exact q8' (a, _) (.head _) (Value.ref.inj (Option.some.inj g1)).symm)) hs hw
end
end Mine
/-! M17 -/
namespace Mine
open PySem PySem.W PySem.Spec PySem.Calls PyProof.Rows PySem.SeqAt

section
variable {C : Cx} {F : Fx} {ρ ρ' ρ'' : Store} {K K' : Fl → Store → Prop}

/-! ## cells -/
theorem Frm.putc {W : Wt} {s : Shared} {h' : Heap} {tk : Nat} {x : Str} {c : Addr} {v : Value} {sl : Sl} (f : Frm C F W ρ s) (hcs : F.cst = true) (hl : F.env.kindOf x = some .cell) (hc : F.env.cells.lookup x = some c) (r : SlAt F W s.heap v sl)
    (hap : ∀ es, sl = .own es → ∀ y es', y ≠ x → ρ.lookup y = some (.own es') → W.get F.env y ≠ some v)
    (hn : h'.IsCell c (some v)) (hs : Heap.SameBut c s.heap h') :
    Frm C F { W with cm := fun y => if y = x then some v else W.cm y } ((x, sl) :: ρ) { s with heap := h', toks := tk } := by
  obtain ⟨k1, k2, k3, k4⟩ := f.cfree hcs x c hc hl
  have hsb : ∀ b o, b ≠ c → s.heap.get? b = some o → h'.get? b = some o := fun b o n e => (hs.2 b n).trans e
  obtain ⟨oc, ec, dc⟩ := f.cells x c hc
  have nl : F.env.kindOf x ≠ some .local := by rw [hl]; decide
  have oth : ∀ y, y ≠ x → Wt.get { W with cm := fun y => if y = x then some v else W.cm y } F.env y = W.get F.env y := fun y hy => by
    unfold Wt.get
    split
    · rfl
    · exact if_neg hy
  have self : Wt.get { W with cm := fun y => if y = x then some v else W.cm y } F.env x = some v := (if_neg nl).trans (if_pos rfl)
  have rp : ∀ {w d}, Rp W.hid s.heap w d → Rp W.hid h' w d := fun r => r.same (a := c) k3 hsb
  have ownp : ∀ w ds, Own F W s.heap w ds → Own F { W with cm := fun y => if y = x then some v else W.cm y } h' w ds := fun w ds o => by
    obtain ⟨a, vs, n, e1, e2, e3, e4, e5, e6, e7, e8⟩ := o
    exact ⟨a, vs, n, e1, hsb _ _ (e7 x c hc) e2, e3.same (a := c) k3 hsb, e4, e5, e6, e7, e8⟩
  have slp : SlAt F { W with cm := fun y => if y = x then some v else W.cm y } h' v sl := match sl, r with
    | .val _, r => rp r
    | .own _, r => ownp _ _ r
  exact { f with
    gd := f.gd.same (f.gd.off ec (fun zz q => by rw [dc] at q; cases q)) ec (fun vs q => by rw [dc] at q; cases q) (f.free k1) hsb
    ns := ns_keep f.ns fun o e zz => hsb _ o (fun q => k2 q.symm) e
    cells := fun y c' e1 => by
      show h'.IsCell c' (if y = x then some v else W.cm y)
      by_cases hy : y = x
      · rw [hy] at e1
        rw [if_pos hy, ← Option.some.inj (hc.symm.trans e1)]; exact hn
      · rw [if_neg hy]
        exact cell_keep (f.cells y c' e1) fun o e zz => hsb _ o (fun q => hy (f.cinj y x c' e1 (q ▸ hc))) e
    vals := put_vals self slp oth fun y d e => (f.vals y d e).imp fun zz q => ⟨q.1, rp q.2⟩
    owns := put_owns self slp oth fun y d zz e => (f.owns y d e).imp fun zz q => ⟨q.1, ownp _ _ q.2⟩
    apart := put_apart self oth hap f.apart
    sc := fun b o n e1 => hsb _ _ (fun q => no_at e1 k1 q) (f.sc b o n e1)
    pins := fun p hp => have q := f.pins p hp; ⟨hsb _ _ (fun q => k4 p hp q.symm) q.1, q.2⟩
    seen := fun p hp => rp (f.seen p hp)
    bd := fun b q => by
      by_cases hb : b = c
      · obtain ⟨ob, e2, _⟩ := hn; exact ⟨ob, hb ▸ e2⟩
      · obtain ⟨ob, e2⟩ := f.bd b q; exact ⟨ob, hsb b ob hb e2⟩ }

theorem store_cellv {W : Wt} {s : Shared} {x : Str} {c : Addr} {v : Value} {d : D} {Q : Unit → Shared → Prop} {E : Value → Shared → Prop} (f : Frm C F W ρ s) (hcs : F.cst = true) (hl : F.env.kindOf x = some .cell) (hc : F.env.cells.lookup x = some c) (r : Rp W.hid s.heap v d)
    (h : ∀ W' s', Frm C F W' ((x, .val d) :: ρ) s' → W'.hid = W.hid → s'.heap.objs.size = s.heap.objs.size → Q () s') : wpAny (model C.prog C.w) F.A (storeName F.env x v) Q E s :=
  wpAny_storeName_cell f.kind hl hc (f.cells x c hc) fun h' hn hs => h _ _ (f.putc (sl := .val d) hcs hl hc r (fun es q => by cases q) hn hs) rfl hs.1
theorem w1_assign_c {x : Str} {p' p : Pos} {e : Expr} {d : D} {c : Addr} (he : Ev C F ρ e d) (h : K .next ((x, .val d) :: ρ)) (hcs : F.cst = true) (hl : F.env.kindOf x = some .cell) (hc : F.env.cells.lookup x = some c) (hs : swapsWith e (some (.Name x p')) p.line F.env = pure false := by rfl) :
    W1 C F ρ (.Assign [.Name x p'] e p) K := .mk fun W s f =>
  wpAny_Assign_Name (he.go W s _ _ f fun v s₁ x₁ r => store_cellv (f.ex x₁) hcs hl hc r fun W' s' f' zz zz => ⟨W', _, _, f', .next, h⟩) hs
theorem w1_assign_new_c {x : Str} {p' p : Pos} {e : Expr} {ds : List D} {c : Addr} (he : EvNew C F ρ e ds) (h : K .next ((x, .own ds) :: ρ)) (hcs : F.cst = true) (hl : F.env.kindOf x = some .cell) (hc : F.env.cells.lookup x = some c) (hs : swapsWith e (some (.Name x p')) p.line F.env = pure false := by rfl) :
    W1 C F ρ (.Assign [.Name x p'] e p) K := .mk fun W s f =>
  wpAny_Assign_Name (he.go W s _ _ f fun a vs n s₁ x₁ h1 h2 r => by
    exact wpAny_storeName_cell f.kind hl hc ((f.hide x₁ h1 ⟨_, h2⟩).cells x c hc) (fun h' hn hs => ⟨_, _, _, (f.hide x₁ h1 ⟨_, h2⟩).putc (sl := .own ds) hcs hl hc (f.own_new h1 h2 r) (fun es zz y es' hy e1 => f.own_other h1 e1) hn hs, .next, h⟩)) hs

/-- a name in a cell that holds a list of the frame's own -/
theorem own_name_c {W : Wt} {s : Shared} {x : Str} {p : Pos} {c : Addr} {ds : List D} {Q : Value → Shared → Prop} {E : Value → Shared → Prop} (f : Frm C F W ρ s) (hx : ρ.lookup x = some (.own ds)) (hl : F.env.kindOf x = some .cell ∨ F.env.kindOf x = some .free) (hc : F.env.cells.lookup x = some c)
    (q : ∀ a vs n, W.get F.env x = some (.ref a) → s.heap.get? a = some ({ cls := .type "list", data := .seq vs n } : Obj) → Rps W.hid s.heap vs.toList ds → W.hid a → Q (.ref a) s) (hd : (x == ("__debug__" : Str)) = false := by decide) (hn : (x == ("__classdict__" : Str)) = false := by decide) : wpAny (model C.prog C.w) F.A (eval (.Name x p) F.env) Q E s := by
  obtain ⟨v, e, o⟩ := f.owns x ds hx
  obtain ⟨a, vs, n, q1, q2, q3, q4, _⟩ := o
  subst q1
  have e' := e
  rw [Wt.get, if_neg (by rcases hl with q | q <;> rw [q] <;> decide)] at e'
  have hcl := f.cells x c hc
  rw [e'] at hcl
  rcases hl with hl | hl
  · exact wpAny_Name (wpAny_loadName_cell f.kind hl hc hcl (q a vs n e q2 q3 q4)) hd
  · exact wpAny_Name (wpAny_loadName_free f.kind hl hc hcl (q a vs n e q2 q3 q4) hn) hd
theorem ev_len_own_c {x : Str} {np p pos : Pos} {ds : List D} {c : Addr} (hx : ρ.lookup x = some (.own ds)) (hl : F.env.kindOf x = some .cell ∨ F.env.kindOf x = some .free) (hc : F.env.cells.lookup x = some c) (hm : C.mg (Str.ofString "len") = none) (hk : F.env.kindOf (Str.ofString "len") = some .globalImplicit) (hz : (ds.length : Int) < 2 ^ 63) (hd : (x == ("__debug__" : Str)) = false := by decide) (hcd : (x == ("__classdict__" : Str)) = false := by decide)
    (he : backTo pos (starEach [.Name x p] F.env) = [(false, eval (.Name x p) F.env)] := by rfl) :
    Ev C F ρ (.Call (.Name (Str.ofString "len") np) [.Name x p] [] pos) (.int ds.length) := .mk fun W s Q E f q =>
  wpAny_Call_NameR (builtin_any f hk hm (v := .builtin "len") (by with_unfolding_all rfl) (by
    rw [he]
    refine callWith_builtin1 (own_name_c f hx hl hc (fun a vs n ha e r zz => ?_) hd hcd)
    have hlen := r.length
    rw [Array.length_toList] at hlen
    refine call_len_list (own_isList e) (by rw [hlen]; exact hz) (q _ _ (Ex.toks f.gd) ?_)
    rw [hlen]; exact .int _ _) (by decide) (by decide))

/-! ## a new base for the frame -/
noncomputable def ownAddrs (W : Wt) (env : Env) (ρ : Store) : List Addr := ρ.filterMap fun p => match ρ.lookup p.1, W.get env p.1 with
  | some (.own _), some (.ref a) => some a
  | _, _ => none
theorem mem_ownAddrs {W : Wt} {env : Env} {a : Addr} {ρ : Store} {x : Str} {ds : List D} (h : ρ.lookup x = some (.own ds)) (e : W.get env x = some (.ref a)) : a ∈ ownAddrs W env ρ :=
  List.mem_filterMap.mpr ⟨(x, .own ds), lookup_mem h, by rw [h, e]⟩
theorem of_ownAddrs {W : Wt} {env : Env} {a : Addr} {ρ : Store} (h : a ∈ ownAddrs W env ρ) : ∃ x ds, ρ.lookup x = some (.own ds) ∧ W.get env x = some (.ref a) := by
  obtain ⟨⟨x, sl⟩, _, e⟩ := List.mem_filterMap.mp h
  refine ⟨x, ?_⟩
  dsimp only at e
  cases h1 : ρ.lookup x with
  | none => rw [h1] at e; cases e
  | some sl => cases sl with
    | val d => rw [h1] at e; cases e
    | own ds =>
      rw [h1] at e
      cases h2 : W.get env x with
      | none => rw [h2] at e; cases e
      | some v =>
        rw [h2] at e
        refine ⟨ds, rfl, congrArg some ?_⟩
        cases v with
        | ref b => cases e; rfl
        | _ => cases e
noncomputable def cellAddrs (env : Env) : List Addr := env.cells.filterMap fun p => env.cells.lookup p.1
theorem mem_cellAddrs {env : Env} {x : Str} {c : Addr} (h : env.cells.lookup x = some c) : c ∈ cellAddrs env := List.mem_filterMap.mpr ⟨(x, c), lookup_mem h, h⟩
theorem of_cellAddrs {env : Env} {c : Addr} (h : c ∈ cellAddrs env) : ∃ x, env.cells.lookup x = some c := by
  obtain ⟨⟨x, d⟩, _, e⟩ := List.mem_filterMap.mp h
  exact ⟨x, e⟩
noncomputable def hidden (F : Fx) (W : Wt) (ρ : Store) : List Addr := (F.env.locals :: (cellAddrs F.env ++ (F.pins.map (·.1) ++ ownAddrs W F.env ρ))).filter fun a => (F.sc.get? a).isNone
noncomputable def bumpSc (F : Fx) (W : Wt) (ρ : Store) (s : Shared) : Heap := hideAll s.heap (hidden F W ρ)

theorem not_hidden {W : Wt} {b : Addr} {o : Obj} (e : F.sc.get? b = some o) : b ∉ hidden F W ρ := by
  intro q
  have := (List.mem_filter.mp q).2
  rw [e] at this; cases this
theorem in_hidden {W : Wt} {b : Addr} (e : F.sc.get? b = none) (h : b ∈ F.env.locals :: (cellAddrs F.env ++ (F.pins.map (·.1) ++ ownAddrs W F.env ρ))) : b ∈ hidden F W ρ :=
  List.mem_filter.mpr ⟨h, by rw [e]; rfl⟩
theorem bumpSc_sub {W : Wt} {s : Shared} (f : Frm C F W ρ s) : ∀ b o, C.off b → F.sc.get? b = some o → (bumpSc F W ρ s).get? b = some o := fun b o n e => hideAll_get _ (f.sc b o n e) (not_hidden e)
theorem Frm.rebase {W : Wt} {s : Shared} (f : Frm C F W ρ s) : Frm C { F with sc := bumpSc F W ρ s } W ρ s :=
  { f with
    cfree := fun hcs y c e1 e2 => have q := f.cfree hcs y c e1 e2; ⟨hideAll_none _ (in_hidden q.1 (.tail _ (List.mem_append_left _ (mem_cellAddrs e1)))), q.2⟩
    owns := fun y d e1 => (f.owns y d e1).imp fun zz q => ⟨q.1, q.2.keep (fun zz zz n e zz => ⟨n, e⟩) (fun b z zz h3 h4 h5 => ⟨fun zz e zz => e, h3, hideAll_none _ (in_hidden h4 (.tail _ (List.mem_append_right _ (List.mem_append_right _ (mem_ownAddrs e1 (z ▸ q.1)))))), h5⟩) rfl⟩
    sc := fun b o n e => of_hideAll _ e
    scg := fun b o e => bumpSc_sub f b o ⟨fun q => no_at e f.ok.na q, fun q => no_at e f.ok.nb q, fun p hp q => no_at e (f.ok.nh p hp) q⟩ (f.scg b o e)
    lloc := hideAll_none _ (in_hidden f.lloc (.head _))
    pins := fun p hp => have q := f.pins p hp; ⟨q.1, q.2.1, q.2.2.1, q.2.2.2.1, hideAll_none _ (in_hidden q.2.2.2.2.1 (.tail _ (List.mem_append_right _ (List.mem_append_left _ (List.mem_map_of_mem (f := (·.1)) hp))))), q.2.2.2.2.2⟩
    Hb := fun a q => (f.Hb a q).elim fun zz e => (f.bd a (f.hH a q)).imp fun zz e' => hideAll_get _ e' (not_hidden e) }
theorem Frm.unbase {W W₀ : Wt} {ρ₀ : Store} {s s₀ : Shared} {sc' : Heap} (f₀ : Frm C F W₀ ρ₀ s₀) (hsub : ∀ b o, C.off b → F.sc.get? b = some o → sc'.get? b = some o) (f : Frm C { F with sc := sc' } W ρ s) : Frm C F W ρ s :=
  { f with
    cfree := fun hcs y c e1 e2 => ⟨(f₀.cfree hcs y c e1 e2).1, (f.cfree hcs y c e1 e2).2⟩
    owns := fun y d e1 => (f.owns y d e1).imp fun zz q => ⟨q.1, q.2.keep (fun zz zz n e zz => ⟨n, e⟩) (fun b zz z h3 h4 h5 => ⟨fun zz e zz => e, h3, z.elim fun ob e => by
      cases q : F.sc.get? b with
      | none => rfl
      | some o => exact no_at (hsub b o (f.gd.off e.1 e.2) q) h4 rfl, h5⟩) rfl⟩
    sc := fun b o n e => f.sc b o n (hsub b o n e)
    scg := f₀.scg
    lloc := f₀.lloc
    pins := fun p hp => have q := f.pins p hp; ⟨q.1, q.2.1, q.2.2.1, q.2.2.2.1, (f₀.pins p hp).2.2.2.2.1, q.2.2.2.2.2⟩
    Hb := f₀.Hb }

/-! ## a def within a def -/
theorem no_triple {a : Value} {q : Str} {t : Tok} {l : List Value} (h : TriplesOk (a :: .str q t :: l)) : False := by cases a <;> exact h
theorem rec_ne_tab {h : Heap} {c P : Addr} {q : Str} {ps : Array Value} (x : h.CodeRec (.ref c) q) (e : h.get? P = some (tabObj ps)) (ht : TriplesOk ps.toList) : c ≠ P := by
  intro hc
  subst hc
  obtain ⟨c', o, vs, t, e1, e2, e3, e4⟩ := x
  cases e1
  rw [e] at e2; cases e2
  have e3 : ps = vs := by injection e3
  subst e3
  have h4 : ps.toList[1]? = some (.str q t) := by rw [Array.getElem?_toList]; exact e4
  revert ht h4
  generalize ps.toList = l
  intro ht h4
  cases l with
  | nil => cases h4
  | cons a l => cases l with
    | nil => cases h4
    | cons b l =>
      cases h4
      exact no_triple ht
structure CodeOff (C : Cx) (h : Heap) (c : Addr) (q : Str) : Prop where
  code : h.CodeRec (.ref c) q
  off : C.off c
theorem Gd.codeOff {s : Shared} {c : Addr} {q : Str} (g : Gd C s) (x : s.heap.CodeRec (.ref c) q) : CodeOff C s.heap c q :=
  ⟨x, g.ta.elim fun _ ⟨e, t, _⟩ => rec_ne_tab x e t, g.tb.elim fun _ ⟨e, t, _⟩ => rec_ne_tab x e t, fun p hp q => by
    obtain ⟨e2, X, vs, _, _, _, h4, _, h6⟩ := g.hx p hp
    obtain ⟨c', o, vs', t', q1, q2, q3, q4⟩ := x
    cases q1
    rw [q, e2] at q2
    rw [← Option.some.inj q2, h4] at q3
    exact h6 _ _ ((Data.fields.inj q3) ▸ q4)⟩
theorem CodeOff.keep {h h' : Heap} {c : Addr} {q : Str} (x : CodeOff C h c q) (k : ∀ b o, C.off b → h.get? b = some o → h'.get? b = some o) : CodeOff C h' c q := by
  obtain ⟨c', o, vs, t, e1, e2, e3⟩ := x.code
  exact ⟨⟨c', o, vs, t, e1, k _ _ (by cases e1; exact x.off) e2, e3⟩, x.off⟩
theorem builtins_at {s : Shared} (ok : C.Ok) (g : Gd C s) {P : Addr} (hP : C.gh.get? P = none) : s.heap.BuiltinsAt C.mg P := by
  obtain ⟨bm, ob, h1, h2, h3, h4, h5, h6⟩ := ok.bmain
  refine ⟨bm, ob, h1, h2, fun q => ?_, fun q => no_at h3 hP q, g.keep _ _ h3, h4, h5, h6⟩
  obtain ⟨o, es, ep, e, hd, _⟩ := ok.g
  rw [q, e] at h3; cases h3; rw [hd] at h6; cases h6

/-- what making the function leaves -/
theorem make_inner {A : Around} {t : Tb} {s : Shared} {name qual : Str} {params : Arguments} {body : List Stmt} {scope : Scope} {env : Env} {pos : Pos} {clos : List (Str × Addr)} {Q : Value → Shared → Prop} {E : Value → Shared → Prop} (ok : C.Ok) (g : Gd C s) (ht : t = C.ta ∨ t = C.tb)
    (hcode : env.code = .ref t.c) (hq : t.qual = qual) (hline : t.line = pos.line ∧ t.col = pos.col) (hcl : closureFor scope env = pure clos) (hge : env.globals = mainGlobals)
    (h : ∀ (f : Addr) (fo : Obj) (doc pm ctv : Value) (c' : Addr) (s' : Shared), Ex C s s' → s.heap.get? f = none → s'.heap.get? f = some fo → fo.data = .func (fnX name qual params body scope clos .none .none doc pm none (.ref c') ctv) → CodeOff C s'.heap c' qual → Q (.ref f) s') :
    wpAny (model C.prog C.w) A (makeFunction name qual params (.stmts body) scope env [] [] [] pos pos.line) Q E s := by
  have hgm := ok.g.keeps g.keep
  have key : TbOk t s.heap ∧ CodeHd C.gh t.c t.P ∧ C.gh.get? t.P = none := ht.elim (fun e => e ▸ ⟨g.ta, ok.ca, ok.na⟩) fun e => e ▸ ⟨g.tb, ok.cb, ok.nb⟩
  obtain ⟨⟨ps, eP, hT, hps⟩, hC, hn⟩ := key
  have hC' := hC.keeps g.keep
  have hb := builtins_at ok g hn
  have hgP : mainGlobals ≠ t.P := fun q => ok.g.elim fun _ ⟨_, _, e, _⟩ => no_at e hn q
  have new : ∀ (h' : Heap), (∀ b o, b ≠ t.P → s.heap.get? b = some o → h'.get? b = some o) → (∃ o, h'.get? t.P = some o) → s.heap.get? h'.objs.size = none := fun h' hx ho => by
    cases q : s.heap.get? h'.objs.size with
    | none => rfl
    | some o =>
      exfalso
      by_cases hb : h'.objs.size = t.P
      · exact ho.elim fun zz e => Nat.lt_irrefl _ (hb ▸ Heap.lt_size e)
      · exact Nat.lt_irrefl _ (Heap.lt_size (hx _ _ hb q))
  rcases hps with hps | ⟨c', hf, hrec⟩
  · rw [hps] at eP hT
    refine makeFunction_K hcl hge hgm hcode hC' eP hT rfl hgP hb fun c' ctv doc h' tk hx hsz hlt hrec htab => ?_
    obtain ⟨fo, hfo, hfr, hfd⟩ : ∃ fo, fnMade name qual params body scope clos doc ((C.mg "__name__").getD .none) c' ctv = fo ∧ fo.isFreed = false ∧ fo.data = .func (fnX name qual params body scope clos .none .none doc ((C.mg "__name__").getD .none) none (.ref c') ctv) := ⟨_, rfl, rfl, rfl⟩
    show Q (.ref h'.objs.size) { s with heap := h'.push (fnMade name qual params body scope clos doc ((C.mg "__name__").getD .none) c' ctv), toks := tk }
    rw [hfo]
    have hrec' := hrec.push fo
    have keep : ∀ b o, b ≠ t.P → s.heap.get? b = some o → (h'.push fo).get? b = some o := fun b o n e => Heap.get?_push_of_some _ (hx b o n e)
    have own : TbOk t (h'.push fo) := by
      refine ⟨_, Heap.get?_push_of_some fo htab, trivial, .inr ⟨c', fun p h1 h2 => ?_, hq ▸ hrec'⟩⟩
      show (if (((pos.line : Nat) : Int) == ((p.line : Nat) : Int) && ((pos.col : Nat) : Int) == ((p.col : Nat) : Int)) then some (Value.ref c') else none) = _
      rw [h1, h2, hline.1, hline.2]; simp
    have other : ∀ u : Tb, u.P ≠ t.P → TbOk u s.heap → TbOk u (h'.push fo) := fun u hne h => by
      obtain ⟨qs, e, hTu, r⟩ := h
      refine ⟨qs, keep _ _ hne e, hTu, r.imp id fun ⟨c2, f2, q2⟩ => ⟨c2, f2, ?_⟩⟩
      have hn2 := rec_ne_tab q2 eP hT
      obtain ⟨c3, o, vs, tt, e1, e2, e3⟩ := q2
      exact ⟨c3, o, vs, tt, e1, keep _ _ (fun q => hn2 (by cases e1; exact q)) e2, e3⟩
    have gd' : Gd C { s with heap := h'.push fo, toks := tk } :=
      ⟨fun b o e => keep b o (fun q => no_at e hn q) (g.keep b o e), ht.elim (fun e => e ▸ own) fun e => other _ (by rw [e]; exact ok.apart) g.ta, ht.elim (fun e => other _ (by rw [e]; exact fun q => ok.apart q.symm) g.tb) fun e => e ▸ own, g.os, g.bare, fun p hp => ⟨keep _ _ (fun q => by
        have e2 := (g.hx p hp).1
        rw [q, eP] at e2
        obtain ⟨X, vs, h1, _⟩ := (g.hx p hp).2
        rw [← Option.some.inj e2] at h1
        cases h1) (g.hx p hp).1, (g.hx p hp).2⟩⟩
    exact h _ fo doc _ ctv c' _ ⟨gd', fun b o n e => keep b o (ht.elim (fun e => e ▸ n.1) fun e => e ▸ n.2.1) e, fun zz zz e => e⟩ (new h' hx ⟨_, htab⟩) (Heap.get?_push_size _ hfr) hfd (gd'.codeOff hrec')
  · refine makeFunction_hit hcl hge hgm hcode hC' eP hT (hf pos hline.1.symm hline.2.symm) hb fun ctv doc h' tk hk hsz => ?_
    obtain ⟨fo, hfo, hfr, hfd⟩ : ∃ fo, fnMade name qual params body scope clos doc ((C.mg "__name__").getD .none) c' ctv = fo ∧ fo.isFreed = false ∧ fo.data = .func (fnX name qual params body scope clos .none .none doc ((C.mg "__name__").getD .none) none (.ref c') ctv) := ⟨_, rfl, rfl, rfl⟩
    show Q (.ref h'.objs.size) { s with heap := h'.push (fnMade name qual params body scope clos doc ((C.mg "__name__").getD .none) c' ctv), toks := tk }
    rw [hfo]
    have keep : ∀ b o, s.heap.get? b = some o → (h'.push fo).get? b = some o := fun b o e => Heap.get?_push_of_some _ (hk b o e)
    have x : Ex C s { s with heap := h'.push fo, toks := tk } := Ex.of_keeps g keep
    exact h _ fo doc _ ctv c' _ x (new h' (fun b o zz e => hk b o e) ⟨_, hk _ _ eP⟩) (Heap.get?_push_size _ hfr) hfd (x.gd.codeOff (hq ▸ hrec.keeps keep))
end
end Mine
/-! M18 -/
namespace Mine
open PySem PySem.W PySem.Spec PySem.Calls PyProof.Rows PySem.SeqAt

section
variable {C : Cx} {F : Fx} {ρ ρ' ρ'' : Store} {K K' : Fl → Store → Prop}

/-- no dict, no cell, no list -/
noncomputable def Plain (d : Data) : Prop := (∀ es ep, d ≠ .dict es ep) ∧ (∀ v, d ≠ .cell v) ∧ ∀ vs n, d ≠ .seq vs n
theorem plain_func {d : Data} {fd : FuncData} (h : d = .func fd) : Plain d := by subst h; exact ⟨fun zz zz q => (by cases q), fun zz q => (by cases q), fun zz zz q => (by cases q)⟩
theorem plain_fields {d : Data} {vs : Array Value} (h : d = .fields vs) : Plain d := by subst h; exact ⟨fun zz zz q => (by cases q), fun zz q => (by cases q), fun zz zz q => (by cases q)⟩
/-- what is no dict, no cell and no list is not hidden -/
theorem Frm.nh {W : Wt} {s : Shared} (f : Frm C F W ρ s) (hp : F.pins = []) {b : Addr} {o : Obj} (e : s.heap.get? b = some o) (n : Plain o.data) : b ∉ hidden F W ρ := fun q => by
  have q := (List.mem_filter.mp q).1
  rcases List.mem_cons.mp q with q | q
  · obtain ⟨oL, es, ep, eL, dL, _⟩ := f.ns
    rw [← q, e] at eL
    exact n.1 _ _ (Option.some.inj eL ▸ dL)
  · rcases List.mem_append.mp q with q | q
    · obtain ⟨y, q⟩ := of_cellAddrs q
      obtain ⟨o2, e3, d2⟩ := f.cells y b q
      rw [e] at e3
      exact n.2.1 _ (Option.some.inj e3 ▸ d2)
    · rcases List.mem_append.mp q with q | q
      · rw [hp] at q; cases q
      · obtain ⟨y, ds, q1, q2⟩ := of_ownAddrs q
        obtain ⟨v, e3, a, vs, k, q3, q4, _⟩ := f.owns y ds q1
        rw [q3, q2] at e3
        rw [← Value.ref.inj (Option.some.inj e3), e] at q4
        exact n.2.2 vs k (by rw [Option.some.inj q4])
theorem ws_def {t : Tb} {name qual : Str} {params : Arguments} {body rest : List Stmt} {scope : Scope} {pos : Pos} {clos : List (Str × Addr)} {c : Addr} (ht : t = C.ta ∨ t = C.tb)
    (hcode : F.env.code = .ref t.c) (hq : t.qual = qual) (hqn : qualnameIn F.env name name = qual) (hline : t.line = pos.line ∧ t.col = pos.col) (hcl : closureFor scope F.env = pure clos) (hcs : F.cst = true) (hp : F.pins = []) (hl : F.env.kindOf name = some .cell) (hc : F.env.cells.lookup name = some c)
    (hd0 : params.defaults = []) (hk0 : params.kw_defaults = []) (ha : annTrees params none F.env = [])
    (h : ∀ (sc' : Heap) (f : Addr) (fo : Obj) (doc pm ctv : Value) (c' : Addr), sc'.get? f = some fo → C.off f → fo.data = .func (fnX name qual params body scope clos .none .none doc pm none (.ref c') ctv) → CodeOff C sc' c' qual → Ws C { F with sc := sc' } ((name, .val (.ptr (.ref f))) :: ρ) rest K) :
    Ws C F ρ (.FunctionDef name params body [] none [] scope none name pos :: rest) K := .mk fun W s f =>
  wpAny_execs_cons (nestDef_K hd0 hk0 ha (hqn ▸ make_inner f.ok f.gd ht hcode hq hline hcl f.glob fun fa fo doc pm ctv c' s₁ x h1 h2 h3 h4 => by
    have f₁ := f.ex x
    refine wpAny_storeName_cell f.kind hl hc (f₁.cells name c hc) fun h' hn hs => ?_
    have f₂ := f₁.putc (tk := s₁.toks) (sl := .val (.ptr (.ref fa))) hcs hl hc (.ptr _) (fun es q => by cases q) hn hs
    have apart : ∀ b o, s₁.heap.get? b = some o → (∀ v, o.data ≠ .cell v) → h'.get? b = some o := fun b o e n => (hs.2 b fun q => (f₁.cells name c hc).elim fun zz z => by
      rw [q, z.1] at e
      exact n _ (Option.some.inj e ▸ z.2)).trans e
    have e2 : h'.get? fa = some fo := apart _ _ h2 (plain_func h3).2.1
    have hoff : C.off fa := x.gd.off h2 (fun vs q => by rw [h3] at q; cases q)
    have hcode' : CodeOff C (bumpSc F { W with cm := fun y => if y = name then some (.ref fa) else W.cm y } ((name, .val (.ptr (.ref fa))) :: ρ) { s₁ with heap := h' }) c' qual := by
      obtain ⟨⟨c₂, o, vs, tt, q1, q2, q3, q4⟩, q5⟩ := h4
      have q2' : h'.get? c₂ = some o := apart _ _ q2 (plain_fields q3).2.1
      exact ⟨⟨c₂, o, vs, tt, q1, hideAll_get _ q2' (f₂.nh hp q2' (plain_fields q3)), q3, q4⟩, q5⟩
    have hh := h _ fa fo doc pm ctv c' (hideAll_get _ e2 (f₂.nh hp e2 (plain_func h3))) hoff h3 hcode'
    exact wpAny_mono (hh.go _ _ f₂.rebase) (fun fl s' k => k.imp fun zz zz f' => f₂.unbase (bumpSc_sub f₂) f') fun zz zz x => x))

/-! ## the call of a closure -/
noncomputable abbrev Fx.clo (env : Env) (A : Around) (k : Nat) (s : Shared) (hid : Addr → Prop) (ls : List Addr) : Fx := { env := env, A := A.deeper env, k := k, cst := false, sc := hideAll s.heap ls, H := fun b => hid b ∧ b ∉ ls, pins := [], seen := [], gens := s.gens }

structure Cap (C : Cx) (hid : Addr → Prop) (s : Shared) (ls : List Addr) (names : List Str) (clos : List (Str × Addr)) (cm : Str → Option Value) (ρc : Store) (kindOf : Str → Option NameKind) : Prop where
  cells : ∀ x c, clos.lookup x = some c → s.heap.IsCell c (cm x)
  inj : ∀ x y c, clos.lookup x = some c → clos.lookup y = some c → x = y
  vals : ∀ x d, ρc.lookup x = some (.val d) → kindOf x ≠ some .local ∧ ∃ v, cm x = some v ∧ Rp hid s.heap v d
  owns : ∀ x ds, ρc.lookup x = some (.own ds) → kindOf x ≠ some .local ∧ ∃ l us n, cm x = some (.ref l) ∧ l ∈ ls ∧ s.heap.get? l = some ({ cls := .type "list", data := .seq us n } : Obj) ∧ Rps hid s.heap us.toList ds ∧ hid l
  one : ∀ x y ds es, ρc.lookup x = some (.own ds) → ρc.lookup y = some (.own es) → x = y
  ls : ∀ l ∈ ls, C.gh.get? l = none

/-- the frame in which a closure's body starts -/
theorem clo_frm {env : Env} {A : Around} {hid : Addr → Prop} {s : Shared} {h₀ : Heap} {tk : Nat} {names : List Str} {k : Nat} {vs : List Value} {ds : List D} {ls : List Addr} {ρc : Store} {cm : Str → Option Value} (ok : C.Ok) (g : Gd C s) (rm : Rm C (A.deeper env) k) (bd : Bd hid s) (r : Rps hid s.heap vs ds) (ga : ∀ b o, s.heap.get? b = some o → h₀.get? b = some o)
    (hk : env.scope.kind = .function) (hg : env.globals = mainGlobals) (hb : env.builtins = builtinsNs) (hL : env.locals = s.heap.objs.size) (hnd : ((names.zip vs).map (·.1)).Nodup) (hloc : ∀ n ∈ names, env.kindOf n = some .local) (hcap : Cap C hid s ls names env.cells cm ρc env.kindOf) (hns : h₀.Ns env.locals fun y => (names.zip vs).reverse.lookup y) :
    Frm C (Fx.clo env A k s hid ls) { m := fun y => (names.zip vs).reverse.lookup y, cm := cm, hid := fun b => hid b ∨ b = s.heap.objs.size } (names.zip (ds.map Sl.val) ++ ρc) { s with heap := h₀, toks := tk } :=
  have x1 : Ex C s { s with heap := h₀, toks := tk } := Ex.of_keeps g ga
  have ownc : ∀ y es, (names.zip (ds.map Sl.val) ++ ρc).lookup y = some (.own es) → ρc.lookup y = some (.own es) := fun y es e => by
    rw [lookup_app] at e
    cases q : (names.zip (ds.map Sl.val)).lookup y with
    | none => rw [q] at e; exact e
    | some sl => rw [q] at e; cases e; obtain ⟨_, _, e2, _⟩ := zip_lookup r q; cases e2
  { gd := x1.gd, ok := ok, rm := rm, kind := hk, glob := hg, blt := hb, ns := hns, cells := fun y c e => (hcap.cells y c e).keeps ga, cfree := nofun, cinj := hcap.inj
    vals := fun y d e1 => by
      rw [lookup_app] at e1
      cases q1 : (names.zip (ds.map Sl.val)).lookup y with
      | some sl =>
        rw [q1] at e1
        obtain ⟨v, d', e2, e3, e4⟩ := zip_lookup r q1
        rw [show d = d' by rw [e2] at e1; cases e1; rfl]
        refine ⟨v, ?_, (Rp.hide get_size e4).ex g x1⟩
        rw [Wt.get_of_local (hloc y (List.of_mem_zip (lookup_mem q1)).1)]
        show (names.zip vs).reverse.lookup y = _
        rw [lookup_reverse hnd, e3]
      | none =>
        rw [q1] at e1
        obtain ⟨hn, v, e2, e3⟩ := hcap.vals y d e1
        exact ⟨v, (if_neg hn).trans e2, (Rp.hide get_size e3).ex g x1⟩
    owns := fun y es e1 => by
      obtain ⟨hn, l, us, n, e2, e3, e4, e5, e6⟩ := hcap.owns y es (ownc y es e1)
      refine ⟨.ref l, (if_neg hn).trans e2, ⟨l, us, n, rfl, ga _ _ e4, (Rps.hide get_size e5).ex g x1, .inl e6, hideAll_none _ e3, fun q => no_at e4 get_size (q.trans hL), fun z c ez q => ?_, allN⟩⟩
      obtain ⟨o, eo, od⟩ := hcap.cells z c ez
      rw [← q, e4] at eo
      rw [← Option.some.inj eo] at od
      cases od
    apart := fun y z es gs v e1 e2 zz zz => hcap.one y z es gs (ownc y es e1) (ownc z gs e2)
    sc := fun b o n e => ga b o (of_hideAll _ e), scg := fun b o e => hideAll_get _ (g.keep b o e) (fun q => no_at e (hcap.ls b q) rfl)
    lloc := by
      cases q : (hideAll s.heap ls).get? env.locals with
      | none => rfl
      | some o => exact no_at (of_hideAll _ q) get_size hL
    pins := allN, pcell := allN, pinj := .nil, seen := allN, gens := fun i y e => e, hL := .inr hL, hH := fun b q => .inl q.1
    Hb := fun a q => (bd a q.1).imp fun o e => hideAll_get _ e q.2
    bd := fun b q => q.elim ((bd.ex x1) b) fun (q : b = s.heap.objs.size) => (ns_at hns).imp fun zz e2 => by rw [q, ← hL]; exact e2 }
theorem clos_call {A : Around} {hid : Addr → Prop} {s : Shared} {f : Addr} {fo : Obj} {name qual : Str} {params : Arguments} {body : List Stmt} {scope : Scope} {clos : List (Str × Addr)} {doc pm ctv : Value} {c' : Addr} {names : List Str} {k : Nat} {vs : List Value} {ds : List D} {ls : List Addr} {ρc : Store} {cm : Str → Option Value} {Q : Value → Shared → Prop} {E : Value → Shared → Prop} {KK : Fl → Store → Prop}
    (ok : C.Ok) (g : Gd C s) (rm : Rm C A (k + 1)) (bd : Bd hid s) (r : Rps hid s.heap vs ds) (ef : s.heap.get? f = some fo) (hd : fo.data = .func (fnX name qual params body scope clos .none .none doc pm none (.ref c') ctv)) (hc : s.heap.CodeRec (.ref c') qual)
    (hnd : names.Nodup) (hlen : names.length = ds.length)
    (hb : ∀ (vs : List Value), vs.length = ds.length → bindArgs (fnX name qual params body scope clos .none .none doc pm none (.ref c') ctv) ⟨vs, []⟩ = pure (names.zip vs))
    (hloc : ∀ n ∈ names, scope.names.lookup n = some .local)
    (hcap : Cap C hid s ls names clos cm ρc (fun x => scope.names.lookup x))
    (h : ∀ L, Ws C (Fx.clo (callEnv (fnX name qual params body scope clos .none .none doc pm none (.ref c') ctv) L f) A k s hid ls) (names.zip (ds.map Sl.val) ++ ρc) body KK)
    (q : ∀ L W ρ' fl flow s', Frm C (Fx.clo (callEnv (fnX name qual params body scope clos .none .none doc pm none (.ref c') ctv) L f) A k s hid ls) W ρ' s' → FlR W.hid s'.heap flow fl → KK fl ρ' → Q (match flow with | .ret v => v | _ => .none) s')
    (hco : scope.isCoroutine = false := by rfl) (hgen : scope.isGenerator = false := by rfl) (hk : scope.kind = .function := by rfl)
    (hcell : ∀ x ∈ scope.names, x.2 ≠ .cell := by decide) : wpAny (model C.prog C.w) A (call (.ref f) vs) Q E s := by
  have hl := r.length
  refine wpAny_call (codeAny_call_def rm.room ef hd (ok.nolimit.keeps g.keep) hc rfl (.of_eq (hb vs hl)) hcell (fun y hy => ?_) (fun h₀ hns hkeep => ?_) hco hgen hk)
  · obtain ⟨n, v⟩ := y
    exact hloc n (List.of_mem_zip hy).1
  · have keysz : (names.zip vs).map (·.1) = names := by
      rw [List.map_fst_zip]; (clear hco hgen; lia)
    have ga : ∀ b o, s.heap.get? b = some o → h₀.get? b = some o := hkeep
    have fr := clo_frm (env := callEnv (fnX name qual params body scope clos .none .none doc pm none (.ref c') ctv) s.heap.objs.size f) (A := A) (k := k) (tk := s.toks + (names.zip vs).length) ok g rm.deeper bd r ga hk rfl rfl rfl (by rw [keysz]; exact hnd) hloc hcap hns
    refine wpAny_mono ((h s.heap.objs.size).go _ _ fr) (fun flow s' he => ?_) fun zz zz x => x.elim
    obtain ⟨W, ρ', fl, f', rf, hfl⟩ := he
    exact q _ W ρ' fl flow s' f' rf hfl

/-- a call of what a name of the frame's holds -/
theorem ev_call_ptr {x : Str} {np pos : Pos} {es : List Expr} {ds : List D} {d : D} {f : Addr} (hv : Ev C F ρ (.Name x np) (.ptr (.ref f))) (hf : ∀ W s, Frm C F W ρ s → ∃ o fd, s.heap.get? f = some o ∧ o.data = .func fd) (h : Evs C F ρ pos es ds)
    (hc : ∀ (W : Wt) (s : Shared) (vs : List Value) (Q : Value → Shared → Prop) (E : Value → Shared → Prop), Frm C F W ρ s → Rps W.hid s.heap vs ds → (∀ v s', Ex C s s' → Rp W.hid s'.heap v d → Q v s') → wpAny (model C.prog C.w) F.A (call (.ref f) vs) Q E s) :
    Ev C F ρ (.Call (.Name x np) es [] pos) d := .mk fun W s Q E fr q =>
  wpAny_Call_NameR (hv.go W s _ _ fr fun v s₀ x₀ r => by
    cases r.ptr_inv
    have fr₀ := fr.ex x₀
    obtain ⟨o, fd, e, ed⟩ := hf W s₀ fr₀
    exact Calls.callWith_function (o := o) (fd := fd) (evs_args h fr₀ fun vs s' x r => by
      refine ⟨⟨x.keep _ _ (fr₀.gd.off e (fun vs q => by rw [ed] at q; cases q)) e, ed⟩, ?_⟩
      show wpAny _ _ (call (.ref f) ([] ++ vs) []) Q E s'
      rw [List.nil_append]
      exact hc W s' vs _ _ (fr₀.ex x) r fun v s'' y r' => q v s'' ((x₀.trans x).trans y) r'))

/-! ## the call of a def with cells -/
noncomputable abbrev Fx.fnc (env : Env) (A : Around) (k : Nat) (s : Shared) (hid : Addr → Prop) : Fx := { env := env, A := A.deeper env, k := k, cst := true, sc := s.heap, H := hid, pins := [], seen := [], gens := s.gens }
theorem bindL_zip {kindOf : Str → Option NameKind} {x : Str} (hx : kindOf x = some .local) : ∀ {names : List Str} {vs : List Value} {m : Str → Option Value}, names.Nodup → bindL kindOf (names.zip vs) m x = ((names.zip vs).lookup x).or (m x) := by
  intro names
  induction names with
  | nil => intro vs m _; rfl
  | cons n names ih =>
    intro vs m hn
    cases vs with
    | nil => rfl
    | cons v vs =>
      have hn := List.nodup_cons.mp hn
      refine (ih hn.2).trans ?_
      rw [List.zip_cons_cons, List.lookup_cons]
      cases q : x == n with
      | true =>
        have q : x = n := beq_iff_eq.mp q
        rw [lookup_out (fun z => hn.1 (by obtain ⟨p, h1, h2⟩ := List.mem_map.mp z; rw [← q, ← h2]; exact (List.of_mem_zip h1).1)), ← q, if_pos hx]
        exact if_pos rfl
      | false =>
        have q : ¬ x = n := fun e => by rw [e] at q; simp at q
        split
        · exact congrArg _ (if_neg q)
        · rfl
theorem bindC_zip {kindOf : Str → Option NameKind} {x : Str} (hx : kindOf x ≠ some .local) : ∀ {names : List Str} {vs : List Value} {m : Str → Option Value}, names.Nodup → bindC kindOf (names.zip vs) m x = ((names.zip vs).lookup x).or (m x) := by
  intro names
  induction names with
  | nil => intro vs m _; rfl
  | cons n names ih =>
    intro vs m hn
    cases vs with
    | nil => rfl
    | cons v vs =>
      have hn := List.nodup_cons.mp hn
      refine (ih hn.2).trans ?_
      rw [List.zip_cons_cons, List.lookup_cons]
      cases q : x == n with
      | true =>
        have q : x = n := beq_iff_eq.mp q
        rw [lookup_out (fun z => hn.1 (by obtain ⟨p, h1, h2⟩ := List.mem_map.mp z; rw [← q, ← h2]; exact (List.of_mem_zip h1).1)), ← q, if_neg hx]
        exact if_pos rfl
      | false =>
        have q : ¬ x = n := fun e => by rw [e] at q; simp at q
        split
        · rfl
        · exact congrArg _ (if_neg q)

structure FnDc (C : Cx) (x : Str) (a : Addr) (cd : Value) (params : Arguments) (body : List Stmt) (scope : Scope) : Prop where
  mg : C.mg x = some (.ref a)
  at_ : ∃ o pm doc, C.gh.get? a = some o ∧ o.data = .func (docDef x params body scope pm cd doc) ∧ C.gh.CodeRec cd x
theorem FnDc.fn {x : Str} {a : Addr} {cd : Value} {params : Arguments} {body : List Stmt} {scope : Scope} (h : FnDc C x a cd params body scope) : ∃ fd, Fn C x a fd := by
  obtain ⟨o, pm, doc, e, d, -⟩ := h.at_
  exact ⟨_, h.mg, o, e, d⟩

theorem call_fncA {x : Str} {a : Addr} {cd : Value} {params : Arguments} {body : List Stmt} {scope : Scope} {k : Nat} {ds : List D} {d : D} {names : List Str} (ok : C.Ok) (hf : FnDc C x a cd params body scope)
    (hnd : names.Nodup) (hlen : names.length = ds.length)
    (hb : ∀ pm doc (vs : List Value), vs.length = ds.length → bindArgs (docDef x params body scope pm cd doc) ⟨vs, []⟩ = pure (names.zip vs))
    (hloc : ∀ n ∈ names, ∀ L, scope.names.lookup n = some .local ∨ (scope.names.lookup n = some .cell ∧ ((cellsFrom L scope.names []).lookup n).isSome = true))
    {A : Around} (h : ∀ (L : Addr) (s : Shared) (hid : Addr → Prop), Ws C (Fx.fnc (envOfC x scope L a cd) A k s hid) (names.zip (ds.map Sl.val)) body (fun fl zz => fl = .ret d))
    (hco : scope.isCoroutine = false := by rfl) (hgen : scope.isGenerator = false := by rfl) (hk : scope.kind = .function := by rfl) : ∀ (hid : Addr → Prop) (s : Shared) (vs : List Value) (Q : Value → Shared → Prop) (E : Value → Shared → Prop),
    Rm C A (k + 1) → Gd C s → Bd hid s → Rps hid s.heap vs ds → (∀ v s', Ex C s s' → Rp hid s'.heap v d → Q v s') → wpAny (model C.prog C.w) A (call (.ref a) vs) Q E s := by
  intro hid s vs Q E rm g bd r q
  obtain ⟨o, pm, doc, e, hd, hc⟩ := hf.at_
  have hl := r.length
  refine wpAny_call (codeAny_call_cells rm.room (g.keep _ _ e) hd (ok.nolimit.keeps g.keep) (hc.keeps g.keep) rfl (hb pm doc vs hl) rfl (fun y hy => hloc _ (List.of_mem_zip (show (y.1, y.2) ∈ names.zip vs from hy)).1 _) (fun s₁ x₁ => ?_) hco hgen hk)
  obtain ⟨h₀, tk, rfl⟩ := x₁.toInCall.same
  have ga := x₁.toInCall.keep
  have above : ∀ y c, (envOfC x scope s.heap.objs.size a cd).cells.lookup y = some c → s.heap.objs.size < c := fun y c e => x₁.above y c (mem_of_lookup e)
  have fresh : ∀ b, s.heap.objs.size ≤ b → s.heap.get? b = none := fun b hb => Heap.get?_none_of_le hb
  have fr := fn_frm (env := envOfC x scope s.heap.objs.size a cd) (A := A) (k := k) (tk := tk) (h₀ := h₀) (W := { m := bindL (envOfC x scope s.heap.objs.size a cd).kindOf (names.zip vs) fun zz => none, cm := bindC (envOfC x scope s.heap.objs.size a cd).kindOf (names.zip vs) fun zz => none, hid := fun b => hid b ∨ b = s.heap.objs.size ∨ ∃ y, (envOfC x scope s.heap.objs.size a cd).cells.lookup y = some b })
    (names := names) ok g rm.deeper bd r ga hk rfl rfl get_size (.inr (.inl rfl)) (fun zz => .inl) (fun b q => q.imp id fun q => q.elim (fun (q : b = s.heap.objs.size) => ⟨q ▸ get_size, (ns_at x₁.toInCall.ns).imp fun zz e => q ▸ e⟩) fun q => q.elim fun z q => ⟨fresh _ (Nat.le_of_lt (above z b q)), (x₁.cell z b q).imp fun zz e => e.1⟩)
    x₁.toInCall.ns (fun y c e => ⟨x₁.cell y c e, fresh _ (Nat.le_of_lt (above y c e)), Nat.ne_of_gt (above y c e), .inr (.inr ⟨y, e⟩)⟩) (fun y z c e1 e2 => name_of_addr x₁.apart (mem_of_lookup e1) (mem_of_lookup e2)) fun y v e3 => by
      unfold Wt.get
      split
      · rename_i hy
        show bindL _ (names.zip vs) _ y = _
        rw [bindL_zip hy hnd, e3]; rfl
      · rename_i hy
        show bindC _ (names.zip vs) _ y = _
        rw [bindC_zip hy hnd, e3]; rfl
  exact wpAny_mono ((h s.heap.objs.size s hid).go _ _ fr) (fun f s' he => he.ret fun W ρ v hv f' rr => by rw [hv]; exact q _ _ ⟨f'.gd, f'.sc, f'.gens⟩ (rr.less f'.hH)) fun zz zz x => x.elim
theorem call_fnc {x : Str} {a : Addr} {cd : Value} {params : Arguments} {body : List Stmt} {scope : Scope} {k : Nat} {ds : List D} {d : D} {names : List Str} (ok : C.Ok) (hf : FnDc C x a cd params body scope)
    (hnd : names.Nodup) (hlen : names.length = ds.length)
    (hb : ∀ pm doc (vs : List Value), vs.length = ds.length → bindArgs (docDef x params body scope pm cd doc) ⟨vs, []⟩ = pure (names.zip vs))
    (hloc : ∀ n ∈ names, ∀ L, scope.names.lookup n = some .local ∨ (scope.names.lookup n = some .cell ∧ ((cellsFrom L scope.names []).lookup n).isSome = true))
    (h : ∀ (L : Addr) (A : Around) (s : Shared) (hid : Addr → Prop), Ws C (Fx.fnc (envOfC x scope L a cd) A k s hid) (names.zip (ds.map Sl.val)) body (fun fl zz => fl = .ret d))
    (hco : scope.isCoroutine = false := by rfl) (hgen : scope.isGenerator = false := by rfl) (hk : scope.kind = .function := by rfl) : Call C (k + 1) (.ref a) ds d := fun A => call_fncA ok hf hnd hlen hb hloc (fun L s hid => h L A s hid) hco hgen hk
end
end Mine
/-! M19 -/
namespace Mine
open PySem PySem.W PySem.Spec PySem.Calls PyProof.Rows PySem.SeqAt

theorem setItem_pos {prog : Program} {w : World} {A : Around} {E : Value → Shared → Prop} {s : Shared} {l : Addr} {items : Array Value} {n : Nat} {k : Int} {t : Tok} {v : Value} {Q : Unit → Shared → Prop} (hl : PySem.IsL s.heap l items n)
    (h0 : 0 ≤ k) (hfit : k < 2 ^ 63) (hn : k < items.size) (hQ : Q () { s with heap := s.heap.update l (Obj.mapSeq (·.setIfInBounds k.toNat v)) }) : wpAny (model prog w) A (setItem (.ref l) (.int k t) v) Q E s := by
  have hL := own_isList hl
  unfold setItem
  try with_reducible refine wpAny_holding ?_
  first | refine wpAny_bind (wpAny_pure ?_) | skip
  refine wpAny_bind (wpAny_sequenceKey hL.typeIs (by decide) ?_)
  refine wpAny_bind (wpAny_callSpecial?_slot (name := Str.ofString "__setitem__") hL.typeIs slot_list_setitem
    (wpAny_call_entry slot_list_setitem hL.typeIs entry_list_setitem ?_ (args_list_setitem _ _ _)))
  show wpAny _ _ (Builtin.List.listSubscript? (.int k t) >>= _) _ _ s
  refine wpAny_bind (wpAny_listSubscript_int (fitsIndex_of h0 hfit) ?_)
  clear hfit
  obtain ⟨j, rfl⟩ := Int.eq_ofNat_of_zero_le h0
  have hj : j < items.size := by (clear h0; lia)
  show wpAny _ _ ((seqItemAt l j >>= fun r => pure (r.map (j, ·))) >>= _) _ _ s
  refine wpAny_bind (wpAny_bind (wpAny_seqItemAt hl rfl (wpAny_pure ?_)))
  rw [show items[j]? = some items[j] from Array.getElem?_eq_getElem hj]
  show wpAny _ _ (setSeqItemAt l j v >>= _) _ _ s
  refine wpAny_bind (wpAny_setSeqItemAt hl rfl ?_)
  first
    | exact wpAny_bind (wpAny_pure (wpAny_pure ⟨.none, rfl, wpAny_pure hQ⟩))
    | exact wpAny_pure ⟨.none, rfl, wpAny_pure hQ⟩

section
variable {C : Cx} {F : Fx} {ρ ρ' ρ'' : Store} {K K' : Fl → Store → Prop}

/-- x[i] = e for a list in a cell -/
theorem w1_setitem_c {x : Str} {np tp p : Pos} {i e : Expr} {ds : List D} {k : Int} {d : D} {c : Addr} (hx : ρ.lookup x = some (.own ds)) (hl : F.env.kindOf x = some .cell ∨ F.env.kindOf x = some .free) (hc : F.env.cells.lookup x = some c) (he : Ev C F ρ e d) (hi : Ev C F ρ i (.int k)) (h0 : 0 ≤ k) (hfit : k < 2 ^ 63) (hn : k < ds.length)
    (h : K .next ((x, .own (ds.set k.toNat d)) :: ρ)) (hd : (x == ("__debug__" : Str)) = false := by decide) (hcd : (x == ("__classdict__" : Str)) = false := by decide) (hs : swapsWith e (some (.Subscript (.Name x np) i tp)) p.line F.env = pure false := by rfl) : W1 C F ρ (.Assign [.Subscript (.Name x np) i tp] e p) K := .mk fun W s f =>
  wpAny_Assign_Subscript (he.go W s _ _ f fun v s₁ x₁ r₁ => own_name_c (f.ex x₁) hx hl hc (fun a vs n ha e1 r hh => hi.go W s₁ _ _ (f.ex x₁) fun iv s₂ x₂ ri => by
    obtain ⟨t, rfl⟩ := ri.int_inv
    have e2 := x₂.keep _ _ (x₁.gd.off e1 (fun zz q => by cases q)) e1
    have r2 := r.ex x₁.gd x₂
    have hlen := r.length
    rw [Array.length_toList] at hlen
    refine setItem_pos e2 h0 hfit (by rw [hlen]; exact hn) ⟨W, _, .next, ((f.ex x₁).ex x₂).ownset (ds' := ds.set k.toNat d) hx ha (Heap.SameBut.update ..) (PySem.IsL.update e2 _) ?_, .next, h⟩
    rw [Array.toList_setIfInBounds]
    exact (Rps.setAt (r₁.ex x₁.gd x₂) _ r2).same hh (Heap.SameBut.update ..).extBut) hd hcd) hs
end
end Mine
/-! M20 -/
namespace Mine
open PySem PySem.W PySem.Spec PySem.Calls PyProof.Rows PySem.SeqAt

/-- an object that stands already is pinned -/
theorem Frm.pinold {C : Cx} {F : Fx} {W : Wt} {ρ : Store} {s : Shared} {a : Addr} {o : Obj} (f : Frm C F W ρ s) (e : s.heap.get? a = some o) (hoff : C.off a) (hh : W.hid a) (hL : a ≠ F.env.locals) (hsc : F.sc.get? a = none) (hc : NoCode o)
    (hcl : ∀ x c, F.env.cells.lookup x = some c → c ≠ a) (hd : ∀ vs n, o.data ≠ .seq vs n) (hp : ∀ p ∈ F.pins, p.1 ≠ a) : Frm C (F.on ((a, o) :: F.pins) F.seen) W ρ s :=
  { f with
    cfree := fun hcs y c e1 e2 => have q := f.cfree hcs y c e1 e2; ⟨q.1, q.2.1, q.2.2.1, allC (hcl y c e1) q.2.2.2⟩
    owns := fun y d e1 => (f.owns y d e1).imp fun v q => ⟨q.1, by
      obtain ⟨b, vs, n, q1, q2, q3, q4, q5, q6, q7, q8⟩ := q.2
      exact ⟨b, vs, n, q1, q2, q3, q4, q5, q6, q7, allC (fun q => hd vs n (by rw [q, e] at q2; rw [Option.some.inj q2])) q8⟩⟩
    pins := allC ⟨e, hoff, hh, hL, hsc, hc⟩ f.pins
    pcell := allC hcl f.pcell
    pinj := List.nodup_cons.mpr ⟨fun q => (List.mem_map.mp q).elim fun p q => hp p q.1 q.2, f.pinj⟩ }

/-! ## an exception on its way -/
/-- what stands but for the slots of the stack's frames -/
structure Up (S : List Addr) (h h' : Heap) : Prop where
  keep : ∀ b o, b ∉ S → h.get? b = some o → h'.get? b = some o
  slots : ∀ b o, b ∈ S → h.get? b = some o → ∃ sl, h'.get? b = some { o with slots := sl }
theorem Up.refl (S : List Addr) (h : Heap) : Up S h h := ⟨fun zz zz zz e => e, fun b o zz e => ⟨o.slots, e⟩⟩
theorem Up.trans {S : List Addr} {h h' h'' : Heap} (x : Up S h h') (y : Up S h' h'') : Up S h h'' :=
  ⟨fun b o n e => y.keep b o n (x.keep b o n e), fun b o n e => (x.slots b o n e).elim fun zz e1 => (y.slots b _ n e1).imp fun zz e2 => e2⟩
theorem Up.of_keeps {S : List Addr} {h h' : Heap} (k : ∀ b o, h.get? b = some o → h'.get? b = some o) : Up S h h' := ⟨fun b o zz e => k b o e, fun b o zz e => ⟨o.slots, k b o e⟩⟩
/-- the exception and the trace it bears -/
inductive Exn (X : String) (e T : Addr) (h : Heap) : Prop
  | mk (oe : Obj) (vs : Array Value) (oT : Obj) (ts : Array Value) (he : h.get? e = some oe) (hc : oe.cls = .type X) (hd : oe.data = .fields vs) (h1 : vs[1]? = some (.ref T)) (h2 : vs[2]? = some .none) (hTe : T ≠ e) (hT : h.get? T = some oT) (hTc : oT.cls = .type "traceback") (hTd : oT.data = .fields ts) (h3 : ts[3]? = some .none)

theorem entry_strong {M : Model} {A : Around} {E : Value → Shared → Prop} {s : Shared} {base : Heap} {env : Env} {outer : List Env} {L e : Addr} {oe : Obj} {vs : Array Value} {head : Value} {hadNext : Bool} {X : String} {Q : Unit → Shared → Prop}
    (hfr : A.frames = some (env :: outer)) (hl : s.heap.FunFrames base (env :: outer)) (hf : env.frame = some L)
    (he : s.heap.get? e = some oe) (hc : oe.cls = .type X) (hd : oe.data = .fields vs) (hsz : 1 < vs.size) (h2 : vs[2]? = some .none)
    (h : ∀ h' T, s.heap.get? T = none → (∀ b o, b ≠ e → s.heap.get? b = some o → b ∉ (env :: outer).filterMap (·.frame) → h'.get? b = some o) → (∀ b o, b ∈ (env :: outer).filterMap (·.frame) → s.heap.get? b = some o → ∃ sl, h'.get? b = some { o with slots := sl }) → Exn X e T h' → Q () { s with heap := h' }) :
    wpAny M A (do let a ← frameOf env; let pl ← entryPlaceOf L hadNext; let b ← EntryCells.newEntry head a .none (rawInt L) .none pl; setField (.ref e) 1 b) (fun zz s' => wpAny M A (setFlight (.ref e) none) Q E s') E s := by
  have hene : e ∉ (env :: outer).filterMap (·.frame) := fun hm => by
    obtain ⟨_, o, ho, hnf⟩ := hl.mem hm
    rw [he] at ho; cases ho; exact hnf vs hd
  refine wpAny_bind (wpAny_frameOf_fun hfr hl hf fun h₁ hs₁ => ?_)
  refine wpAny_bind (wpAny_entryPlaceOf fun pl hpl => ?_)
  unfold EntryCells.newEntry newFields
  refine wpAny_bind (wpAny_newObj_type ?_ (hpl.sizeOk5 _ _ _ _ _))
  have he₁ : h₁.get? e = some oe := (hs₁.2.1 e hene).trans he
  generalize hTo : ({ cls := .type "traceback", dict := none, data := .fields ([head, .ref L, .none, rawInt L, .none] ++ (if pl.isEmpty then List.replicate 6 Value.none else pl)).toArray } : Obj) = To
  have hTd : To.data = .fields ([head, .ref L, .none, rawInt L, .none] ++ (if pl.isEmpty then List.replicate 6 Value.none else pl)).toArray := by rw [← hTo]
  have hTc : To.cls = .type "traceback" := by rw [← hTo]
  have hTf : To.isFreed = false := Obj.isFreed_of_fields hTd
  have he₂ := Heap.get?_push_of_some (h := h₁) To he₁
  refine wpAny_setField he₂ hd hsz ?_
  have hTe : h₁.objs.size ≠ e := Nat.ne_of_gt (Heap.lt_size he₁)
  have hd₃ := Obj.data_mapFields hd (·.setIfInBounds 1 (Value.ref h₁.objs.size))
  have hc₃ := (Obj.cls_mapFields oe (·.setIfInBounds 1 (Value.ref h₁.objs.size))).trans hc
  have he₃ := Heap.get?_update_self (Obj.mapFields (·.setIfInBounds 1 (Value.ref h₁.objs.size))) he₂ (Obj.isFreed_of_fields hd₃)
  have hT₃ := (Heap.get?_update_other (h₁.push To) (Obj.mapFields (·.setIfInBounds 1 (Value.ref h₁.objs.size))) (Ne.symm hTe)).trans (Heap.get?_push_size h₁ hTf)
  have keep₃ : ∀ b o, b ≠ e → h₁.get? b = some o → ((h₁.push To).update e (Obj.mapFields (·.setIfInBounds 1 (Value.ref h₁.objs.size)))).get? b = some o := fun b o hbe hb => (Heap.get?_update_other _ _ (Ne.symm hbe)).trans (Heap.get?_push_of_some _ hb)
  generalize (h₁.push To).update e (Obj.mapFields (·.setIfInBounds 1 (Value.ref h₁.objs.size))) = H₃ at he₃ hT₃ keep₃ ⊢
  generalize Obj.mapFields (·.setIfInBounds 1 (Value.ref h₁.objs.size)) oe = oe₃ at he₃ hd₃ hc₃
  unfold setFlight
  refine wpAny_bind (wpAny_field he₃ hd₃ (x := .ref h₁.objs.size) (Array.getElem?_setIfInBounds_self_of_lt hsz) ?_)
  rw [if_pos (show (Value.ref h₁.objs.size != Value.none) = true from by simp)]
  generalize hT : h₁.objs.size = T at hTe hT₃ ⊢
  have keep : ∀ b o, b ≠ e → h₁.get? b = some o → (H₃.update T (Obj.mapFields (·.setIfInBounds 3 ((none : Option Addr).elim Value.none fun f => rawInt f)))).get? b = some o := fun b o hbe hb =>
    (Heap.get?_update_other _ _ (hT ▸ Nat.ne_of_gt (Heap.lt_size hb))).trans (keep₃ b o hbe hb)
  refine wpAny_setField hT₃ hTd (by simp only [List.size_toArray, List.length_append, List.length_cons, List.length_nil] <;> (clear hsz hene hTf hTe; lia)) (h _ T (hT ▸ hs₁.1 ▸ get_size) ?_ ?_ ?_)
  · exact fun b o hbe hb hn => keep b o hbe ((hs₁.2.1 b hn).trans hb)
  · exact fun b o hb ho => (hs₁.2.2 b o ho).imp fun sl hs => keep b _ (fun q => hene (q ▸ hb)) hs
  · refine ⟨oe₃, _, _, _, (Heap.get?_update_other _ _ hTe).trans he₃, hc₃, hd₃, ?_, ?_, hTe, Heap.get?_update_self _ hT₃ (Obj.isFreed_of_fields (Obj.data_mapFields hTd _)), (Obj.cls_mapFields _ _).trans hTc, Obj.data_mapFields hTd _, ?_⟩
    · rw [hT]; exact Array.getElem?_setIfInBounds_self_of_lt hsz
    · rw [Array.getElem?_setIfInBounds_ne (by decide)]; exact h2
    · first | (simp; done) | (rcases hpl with rfl | ⟨_, _, _, _, _, _, _, rfl⟩ <;> simp)

theorem leave_strong {M : Model} {A : Around} {E : Value → Shared → Prop} {s : Shared} {base : Heap} {env : Env} {outer : List Env} {L e : Addr} {oe : Obj} {vs : Array Value} {X : String} {Q : Unit → Shared → Prop}
    (hfr : A.frames = some (env :: outer)) (hl : s.heap.FunFrames base (env :: outer)) (hf : env.frame = some L)
    (he : s.heap.get? e = some oe) (hc : oe.cls = .type X) (hd : oe.data = .fields vs) (h1 : vs[1]? = some .none) (h2 : vs[2]? = some .none)
    (h : ∀ h' T, s.heap.get? T = none → (∀ b o, b ≠ e → s.heap.get? b = some o → b ∉ (env :: outer).filterMap (·.frame) → h'.get? b = some o) → (∀ b o, b ∈ (env :: outer).filterMap (·.frame) → s.heap.get? b = some o → ∃ sl, h'.get? b = some { o with slots := sl }) → Exn X e T h' → Q () { s with heap := h' }) :
    wpAny M A (leaving env (.ref e)) Q E s := by
  unfold leaving noteFrame
  simp only [hf]
  refine wpAny_bind (wpAny_bind (wpAny_field he hd h1 ?_))
  rw [if_neg (by decide)]
  exact entry_strong hfr hl hf he hc hd (Array.getElem?_eq_some_iff.mp h1).1 h2 h
theorem note_strong {M : Model} {A : Around} {E : Value → Shared → Prop} {s : Shared} {base : Heap} {env : Env} {outer : List Env} {L e T : Addr} {X : String} {Q : Unit → Shared → Prop}
    (hfr : A.frames = some (env :: outer)) (hl : s.heap.FunFrames base (env :: outer)) (hf : env.frame = some L) (hx : Exn X e T s.heap)
    (h : ∀ h' T', s.heap.get? T' = none → (∀ b o, b ≠ e → b ≠ T → s.heap.get? b = some o → b ∉ (env :: outer).filterMap (·.frame) → h'.get? b = some o) → (∀ b o, b ∈ (env :: outer).filterMap (·.frame) → s.heap.get? b = some o → ∃ sl, h'.get? b = some { o with slots := sl }) → Exn X e T' h' → Q () { s with heap := h' }) :
    wpAny M A (noteFrame (.ref e) env) (fun zz s' => wpAny M A (setFlight (.ref e) none) Q E s') E s := by
  obtain ⟨oe, vs, oT, ts, he, hc, hd, h1, h2, hTe, hT, hTc, hTd, h3⟩ := hx
  unfold noteFrame
  simp only [hf]
  refine wpAny_bind (wpAny_field he hd h1 ?_)
  rw [if_pos (show (Value.ref T != Value.none) = true from by simp)]
  refine wpAny_bind (wpAny_field hT hTd h3 ?_)
  rw [if_neg (show ¬ ((Value.none == rawInt L) = true) from by simp [rawInt])]
  refine wpAny_bind (wpAny_setField hT hTd (Array.getElem?_eq_some_iff.mp h3).1 ?_)
  have other : ∀ b, b ≠ T → (s.heap.update T (Obj.mapFields (·.setIfInBounds 3 Value.none))).get? b = s.heap.get? b := fun b hb => Heap.get?_update_other _ _ (Ne.symm hb)
  have noRec : ∀ b o, s.heap.get? b = some o → (∀ vs, o.data ≠ .fields vs) → b ≠ T := fun b o hb hnf q => by
    rw [q, hT] at hb; cases hb; exact hnf ts hTd
  refine entry_strong hfr (hl.of_keeps fun b o hb hnf => ⟨o, (other b (noRec b o hb hnf)).trans hb, rfl⟩) hf ((other e (Ne.symm hTe)).trans he) hc hd (Array.getElem?_eq_some_iff.mp h1).1 h2 fun h' T' kT k1 k2 k3 => h h' T' (by
    by_cases hq : T' = T
    · rw [hq, Heap.get?_update_self (Obj.mapFields (·.setIfInBounds 3 Value.none)) hT (Obj.isFreed_of_fields (Obj.data_mapFields hTd _))] at kT
      cases kT
    · exact (other T' hq).symm.trans kT) (fun b o n1 n2 e1 n3 => k1 b o n1 ((other b n2).trans e1) n3) (fun b o hb e1 => ?_) k3
  obtain ⟨_, o', e2, hnf⟩ := hl.mem hb
  exact k2 b o hb ((other b (noRec b o' e2 hnf)).trans e1)
end Mine
/-! M21 -/
namespace Mine
open PySem PySem.W PySem.Spec PySem.Calls PyProof.Rows PySem.SeqAt

section
variable {C : Cx}
/-- the call of a def, its body raw -/
theorem enter_fn {x : Str} {a : Addr} {params : Arguments} {body : List Stmt} {scope : Scope} {k : Nat} {ds : List D} {names : List Str} (ok : C.Ok) (hf : FnD C x a params body scope)
    (hnames : params.args.map (·.arg) = names) (hnd : names.Nodup) (hlen : names.length = ds.length)
    (hb : ∀ pm cd doc (vs : List Value), vs.length = ds.length → bindArgs (docDef x params body scope pm cd doc) ⟨vs, []⟩ = pure (names.zip vs))
    (hloc : ∀ n ∈ names, scope.names.lookup n = some .local)
    {A : Around} {hid : Addr → Prop} {s : Shared} {vs : List Value} {Q : Value → Shared → Prop} {E : Value → Shared → Prop} (rm : Rm C A (k + 1)) (g : Gd C s) (bd : Bd hid s) (r : Rps hid s.heap vs ds)
    (h : ∀ (L : Addr) (cd : Value) (s₁ : Shared) (W : Wt), s.heap.get? L = none → W.hid = (fun b => hid b ∨ b = L) → Frm C (Fx.fn (envOf x scope L a cd) A k s hid) W (names.zip (ds.map Sl.val)) s₁ → (∀ b o, s.heap.get? b = some o → s₁.heap.get? b = some o) →
      wpAny (model C.prog C.w) (A.deeper (envOf x scope L a cd)) (execs body (envOf x scope L a cd)) (fun f s' => Q (match f with | .ret v => v | _ => .none) s')
        (fun e s' => wpAny (model C.prog C.w) (A.deeper (envOf x scope L a cd)) (leaving (envOf x scope L a cd) e) (fun zz s'' => E e s'') E s') s₁)
    (hco : scope.isCoroutine = false := by rfl) (hgen : scope.isGenerator = false := by rfl) (hk : scope.kind = .function := by rfl)
    (hcell : ∀ x ∈ scope.names, x.2 ≠ .cell := by decide) : wpAny (model C.prog C.w) A (call (.ref a) vs) Q E s := by
  obtain ⟨o, pm, cd, doc, e, hd, hc⟩ := hf.at_
  have hl := r.length
  refine wpAny_call (codeAny_call_def rm.room (g.keep _ _ e) hd (ok.nolimit.keeps g.keep) (hc.keeps g.keep) rfl (.of_eq (hb pm cd doc vs hl)) hcell (fun y hy => ?_) (fun h₀ hns hkeep => ?_) hco hgen hk)
  · obtain ⟨n, v⟩ := y
    exact hloc n (List.of_mem_zip hy).1
  · have keysz : (names.zip vs).map (·.1) = names := by
      rw [List.map_fst_zip]; (clear hco hgen; lia)
    have ga : ∀ b o, s.heap.get? b = some o → h₀.get? b = some o := hkeep
    have fr := fn_frm (env := envOf x scope s.heap.objs.size a cd) (A := A) (k := k) (tk := s.toks + (names.zip vs).length) (W := { m := fun y => (names.zip vs).reverse.lookup y, cm := fun zz => none, hid := fun b => hid b ∨ b = s.heap.objs.size }) (names := names) ok g rm.deeper bd r ga hk rfl rfl get_size (.inr rfl) (fun zz => .inl)
      (fun b q => q.imp id fun (q : b = s.heap.objs.size) => ⟨q ▸ get_size, (ns_at hns).imp fun zz e => q ▸ e⟩) hns nofun nofun fun y v e => by
        rw [Wt.get_of_local (show (envOf x scope s.heap.objs.size a cd).kindOf y = some .local from hloc y (List.of_mem_zip (lookup_mem e)).1)]
        show (names.zip vs).reverse.lookup y = some v
        rw [lookup_reverse (by rw [keysz]; exact hnd)]; exact e
    exact h s.heap.objs.size cd _ _ get_size rfl fr ga

/-- an object of the outer frame's is left out -/
theorem Frm.hide1 {F : Fx} {W : Wt} {ρ : Store} {s : Shared} {a : Addr} (f : Frm C F W ρ s) (hg : C.gh.get? a = none) : Frm C { F with sc := hideAll F.sc [a], H := fun b => F.H b ∧ b ≠ a } W ρ s :=
  have nn : ∀ {b}, F.sc.get? b = none → (hideAll F.sc [a]).get? b = none := fun {b} e => by
    cases q : (hideAll F.sc [a]).get? b with
    | none => rfl
    | some o => rw [of_hideAll _ q] at e; cases e
  { f with
    cfree := fun hcs y c e1 e2 => have q := f.cfree hcs y c e1 e2; ⟨nn q.1, q.2⟩
    owns := fun y d e1 => (f.owns y d e1).imp fun zz q => ⟨q.1, q.2.keep (fun zz zz n e zz => ⟨n, e⟩) (fun b zz zz h3 h4 h5 => ⟨fun zz e zz => e, h3, nn h4, h5⟩) rfl⟩
    sc := fun b o n e => f.sc b o n (of_hideAll _ e)
    scg := fun b o e => hideAll_get _ (f.scg b o e) (fun q => by rw [List.mem_singleton.mp q, hg] at e; cases e)
    lloc := nn f.lloc
    pins := fun p hp => have q := f.pins p hp; ⟨q.1, q.2.1, q.2.2.1, q.2.2.2.1, nn q.2.2.2.2.1, q.2.2.2.2.2⟩
    hH := fun b q => f.hH b q.1
    Hb := fun b q => (f.Hb b q.1).imp fun zz e => hideAll_get _ e fun z => q.2 (List.mem_singleton.mp z) }

noncomputable def Cx.on (C : Cx) (p : Addr × Obj) : Cx := { C with hd := some p }
theorem Cx.Ok.on (ok : C.Ok) {p : Addr × Obj} (h : C.gh.get? p.1 = none) : (C.on p).Ok :=
  { ok with nh := fun q e => by cases e; exact h }

theorem Gd.strong {s : Shared} (g : Gd C s) (h0 : C.hd = none) {S : List Addr} {h' : Heap} (hS : ∀ b ∈ S, C.gh.get? b = none ∧ ∃ o, s.heap.get? b = some o ∧ ∀ vs, o.data ≠ .fields vs) (k : ∀ b o, b ∉ S → s.heap.get? b = some o → h'.get? b = some o) : Gd C { s with heap := h' } :=
  have kf : ∀ b o vs, o.data = .fields vs → s.heap.get? b = some o → h'.get? b = some o := fun b o vs hd e => k b o (fun q => by
    obtain ⟨_, o', e', hn⟩ := hS b q
    rw [e] at e'; cases e'; exact hn _ hd) e
  have tb : ∀ t : Tb, TbOk t s.heap → TbOk t h' := fun t h => by
    obtain ⟨ps, e1, ht, r⟩ := h
    refine ⟨ps, kf _ _ _ rfl e1, ht, r.imp id fun q => q.imp fun c' q => ⟨q.1, ?_⟩⟩
    obtain ⟨c, o, vs, t', e2, e3, e4, e5⟩ := q.2
    exact ⟨c, o, vs, t', e2, kf _ _ _ e4 e3, e4, e5⟩
  ⟨fun b o q => k b o (fun z => by rw [(hS b z).1] at q; cases q) (g.keep b o q), tb _ g.ta, tb _ g.tb, g.os, g.bare, fun p hp => by rw [h0] at hp; cases hp⟩

/-- the frame under an exception that is handled -/
theorem Frm.catch {F : Fx} {W : Wt} {ρ : Store} {s s' : Shared} {L0 e : Addr} {oL oL' oe : Obj} (f : Frm C { F with pins := [(L0, oL)] } W ρ s) (h0 : C.hd = none) (g' : Gd C s') (hgen : ∀ (i : Nat) (x : GenState), s.gens[i]? = some x → s'.gens[i]? = some x)
    (he : s.heap.get? e = none) (he' : s'.heap.get? e = some oe) (ho : HdObj oe)
    (k1 : ∀ b o, C.off b → b ≠ L0 → b ≠ F.env.locals → s.heap.get? b = some o → s'.heap.get? b = some o) (k2 : ∀ o, s.heap.get? F.env.locals = some o → ∃ sl, s'.heap.get? F.env.locals = some { o with slots := sl })
    (k3 : s'.heap.get? L0 = some oL') (hn : NoCode oL') (hfr : F.env.cells = []) (hown : ∀ x ds, ρ.lookup x ≠ some (.own ds)) (hF : F.seen = []) :
    Frm (C.on (e, oe)) { F with pins := [(L0, oL')], A := F.A.mark (some (.ref e)) } W ρ s' := by
  obtain ⟨p1, p2, p3, p4, p5, p6⟩ := f.pins (L0, oL) (.head _)
  obtain ⟨oN, es, ep, n1, n2, n3⟩ := f.ns
  obtain ⟨sl, n4⟩ := k2 _ n1
  have ne : ∀ b o, s.heap.get? b = some o → b ≠ e := fun b o q z => no_at q he z
  have g2 : Gd (C.on (e, oe)) s' := ⟨g'.keep, g'.ta, g'.tb, g'.os, g'.bare, fun p q => by cases q; exact ⟨he', ho⟩⟩
  have rp : ∀ {v d}, Rp W.hid s.heap v d → Rp W.hid s'.heap v d := fun r => r.mono fun b o nb eb hq => ⟨nb, k1 b o (f.gd.offq eb hq) (fun z => nb (z ▸ p3)) (fun z => nb (z ▸ f.hL)) eb⟩
  have no : ∀ {P : Prop} y c, F.env.cells.lookup y = some c → P := fun y c q => by rw [hfr] at q; cases q
  exact {
    gd := g2
    ok := f.ok.on (by cases q : C.gh.get? e with | none => rfl | some o => have := f.gd.keep _ _ q; rw [he] at this; cases this)
    rm := ⟨rfl, f.rm.2.1, f.rm.2.2⟩
    kind := f.kind, glob := f.glob, blt := f.blt
    ns := ⟨_, es, ep, n4, n2, n3⟩
    cells := fun y c q => no y c q
    cfree := fun zz y c q => no y c q
    cinj := f.cinj
    vals := fun y d q => (f.vals y d q).imp fun zz q => ⟨q.1, rp q.2⟩
    owns := fun y d q => absurd q (hown y d)
    apart := f.apart
    sc := fun b o n q => by
      have nL0 : b ≠ L0 := fun z => no_at q p5 z
      have nl : b ≠ F.env.locals := fun z => no_at q f.lloc z
      have nof : C.off b := ⟨n.1, n.2.1, fun p hp => by rw [h0] at hp; cases hp⟩
      exact k1 b o nof nL0 nl (f.sc b o nof q)
    scg := f.scg
    lloc := f.lloc
    pins := all1 ⟨k3, ⟨p2.1, p2.2.1, fun p hp => by cases hp; exact ne _ _ p1⟩, p3, p4, p5, hn⟩
    pcell := fun p hp y c q => no y c q
    pinj := f.pinj
    seen := fun p hp => absurd (show p ∈ F.seen from hp) (by rw [hF]; exact List.not_mem_nil)
    gens := fun i x q => hgen i x (f.gens i x q)
    hL := f.hL
    hH := f.hH
    Hb := f.Hb
    bd := fun b q => by
      obtain ⟨o, eb⟩ := f.bd b q
      by_cases z : b = L0
      · exact ⟨_, z ▸ k3⟩
      · by_cases z2 : b = F.env.locals
        · exact ⟨_, z2 ▸ n4⟩
        · exact (off_or g' b).elim (fun ho => ⟨_, k1 b o ho z z2 eb⟩) id }

/-- the flight ends -/
theorem exn_flight {X : String} {e T : Addr} {A : Around} {M : Model} {s : Shared} {Q : Unit → Shared → Prop} {E : Value → Shared → Prop} (x : Exn X e T s.heap)
    (h : ∀ h', (∀ b, b ≠ T → h'.get? b = s.heap.get? b) → Exn X e T h' → Q () { s with heap := h' }) : wpAny M A (setFlight (.ref e) none) Q E s := by
  obtain ⟨oe, vs, oT, ts, he, hc, hd, h1, h2, hTe, hT, hTc, hTd, h3⟩ := x
  have hsz := (Array.getElem?_eq_some_iff.mp h3).1
  refine wpAny_setFlight_none he hd h1 hT hTd hsz (h _ (fun b n => Heap.get?_update_other _ _ (Ne.symm n)) ?_)
  refine ⟨oe, vs, _, _, (Heap.get?_update_other _ _ hTe).trans he, hc, hd, h1, h2, hTe, Heap.get?_update_self _ hT (Obj.isFreed_of_fields (Obj.data_mapFields hTd _)), (Obj.cls_mapFields _ _).trans hTc, Obj.data_mapFields hTd _, ?_⟩
  rw [Array.getElem?_setIfInBounds_self_of_lt hsz]
theorem Exn.hd {X : String} {e T : Addr} {h : Heap} (x : Exn X e T h) (h1 : X ≠ "tuple") (h2 : X ≠ "list") : ∃ oe, h.get? e = some oe ∧ HdObj oe := by
  obtain ⟨oe, vs, oT, ts, he, hc, hd, hv, hv2, _⟩ := x
  exact ⟨oe, he, X, vs, hc, h1, h2, hd, hv2, fun q t z => by rw [hv] at z; cases z⟩
theorem Exn.typeIs {X : String} {e T : Addr} {s : Shared} (x : Exn X e T s.heap) : s.TypeIs (.ref e) X := by
  obtain ⟨oe, vs, oT, ts, he, hc, _⟩ := x
  exact ⟨oe, he, hc⟩
end
end Mine
/-! A1 -/
namespace Mine
open PySem PySem.W PySem.Spec PySem.Calls PyProof.Rows PySem.SeqAt
open Builtin.Int (intBits)

theorem div_unique {A b q r : Int} (h : A = q * b + r) (h0 : 0 ≤ r) (h1 : r < b) : A / b = q ∧ A % b = r := by
  have hb : 0 < b := by (clear h; lia)
  exact (Int.ediv_emod_unique hb).mpr ⟨by rw [h, Int.mul_comm]; (clear h h0 h1 hb; lia), h0, h1⟩
theorem fdiv_pos {a b : Int} (h : 0 ≤ b) : a.fdiv b = a / b := Int.fdiv_eq_ediv_of_nonneg a h
theorem fmod_pos {a b : Int} (h : 0 ≤ b) : a.fmod b = a % b := Int.fmod_eq_emod_of_nonneg a h
theorem pow_pos2 (n : Nat) : (0 : Int) < 2 ^ n := by
  have := Nat.two_pow_pos n
  have h : ((2 ^ n : Nat) : Int) = (2 : Int) ^ n := by simp
  lia
theorem pow_cast (n : Nat) : ((2 ^ n : Nat) : Int) = (2 : Int) ^ n := by simp

theorem and_low {q r h : Nat} (hr : r < 2 ^ h) : (q * 2 ^ h) &&& r = 0 := by
  apply Nat.eq_of_testBit_eq
  intro i
  rw [Nat.testBit_and, Nat.testBit_mul_two_pow, Nat.zero_testBit]
  by_cases hi : h ≤ i
  · rw [Nat.testBit_lt_two_pow (Nat.lt_of_lt_of_le hr (Nat.pow_le_pow_right (by decide) hi)), Bool.and_false]
  · rw [decide_eq_false hi]; rfl
theorem and_high {x s : Nat} : x &&& (x / 2 ^ s * 2 ^ s) = x / 2 ^ s * 2 ^ s := by
  apply Nat.eq_of_testBit_eq
  intro i
  rw [Nat.testBit_and, Nat.testBit_mul_two_pow]
  by_cases hi : s ≤ i
  · rw [Nat.testBit_div_two_pow, decide_eq_true hi, show i - s + s = i by grind]; simp
  · rw [decide_eq_false hi]; simp

theorem or_low {q r : Int} {h : Nat} (hq : 0 ≤ q) (h0 : 0 ≤ r) (hr : r < 2 ^ h) : Builtin.bitOr (q * 2 ^ h) r = q * 2 ^ h + r := by
  rw [bitOr_and, bitAnd_pp (Int.mul_nonneg hq (Int.le_of_lt (pow_pos2 h))) h0]
  have e : (q * 2 ^ h).toNat = q.toNat * 2 ^ h := by
    have : q * 2 ^ h = ((q.toNat * 2 ^ h : Nat) : Int) := by rw [Int.natCast_mul, pow_cast, Int.toNat_of_nonneg hq]
    rw [this, Int.toNat_natCast]
  rw [e, and_low (by have := pow_cast h; (clear hq e; lia))]
  simp
theorem xor_high {x : Int} {s : Nat} (hx : 0 ≤ x) : Builtin.bitXor x (x / 2 ^ s * 2 ^ s) = x % 2 ^ s := by
  have hp := pow_pos2 s
  have hd : 0 ≤ x / 2 ^ s := Int.ediv_nonneg hx (Int.le_of_lt hp)
  rw [bitXor_and, bitAnd_pp hx (Int.mul_nonneg hd (Int.le_of_lt hp))]
  have e : (x / 2 ^ s * 2 ^ s).toNat = x.toNat / 2 ^ s * 2 ^ s := by
    have : x / 2 ^ s * 2 ^ s = ((x.toNat / 2 ^ s * 2 ^ s : Nat) : Int) := by rw [Int.natCast_mul, Int.natCast_ediv, pow_cast, Int.toNat_of_nonneg hx]
    rw [this, Int.toNat_natCast]
  rw [e, and_high, ← e, Int.toNat_of_nonneg (Int.mul_nonneg hd (Int.le_of_lt hp))]
  have := Int.mul_ediv_add_emod x (2 ^ s)
  rw [Int.mul_comm] at this
  (clear hx hp hd e; lia)

/-! sizes -/
theorem bits_of_lt {x : Int} {m : Nat} (h0 : 0 ≤ x) (h : x < 2 ^ m) : intBits x ≤ m := intBits_le_iff.mpr (by have := pow_cast m; grind)
theorem lt_of_bits {x : Int} {m : Nat} (h : intBits x ≤ m) : x < 2 ^ m := by have := intBits_le_iff.mp h; have := pow_cast m; (clear h; grind)
theorem le_bits {x : Int} {m : Nat} (hm : 1 ≤ m) (h : 2 ^ (m - 1) ≤ x) : m ≤ intBits x := by
  apply Nat.le_of_not_lt
  intro q
  have := intBits_le_iff.mp (show intBits x ≤ m - 1 by (clear h; omega))
  have := pow_cast (m - 1)
  (clear hm q; grind)
theorem digits_bits (x : Int) : (if x == 0 then 0 else x.natAbs.log2 / 30 + 1) = (if intBits x = 0 then 0 else (intBits x - 1) / 30 + 1) := by
  unfold Builtin.Int.intBits
  by_cases h : x == 0
  · rw [if_pos h, if_pos h, if_pos rfl]
  · rw [if_neg h, if_neg h, if_neg (by (clear h; lia)), Nat.add_sub_cancel]
theorem pylong_small {a b : Int} (h : intBits a ≤ intBits b + 4000) : Builtin.divisionGoesByPylong a b = false := by
  unfold Builtin.divisionGoesByPylong
  dsimp only
  have d1 := digits_bits a
  have d2 := digits_bits b
  have dg : ∀ n : Nat, (if n = 0 then 0 else (n - 1) / 30 + 1) = (n + 29) / 30 := fun n => by
    cases n with
    | zero => rfl
    | succ n => exact (Nat.add_div_right n (by decide)).symm
  rw [Bool.and_eq_false_iff, decide_eq_false_iff_not, decide_eq_false_iff_not]
  refine .inr (Nat.not_lt.mpr ?_)
  rw [dg] at d1 d2
  have h1 : (intBits a + 29) / 30 ≤ (intBits b + 29 + 134 * 30) / 30 := Nat.div_le_div_right (Nat.le_trans (Nat.add_le_add_right h 29) (by rw [Nat.add_right_comm]; exact Nat.add_le_add_left (by decide) _))
  rw [Nat.add_mul_div_right _ _ (by decide)] at h1
  exact Nat.le_trans (Nat.le_trans (Nat.le_of_eq d1) h1) (Nat.le_trans (Nat.add_le_add_left (by decide) _) (Nat.add_le_add_right (Nat.le_of_eq d2.symm) 150))

/-! the schoolbook step -/
theorem div3 {a12 a3 b b1 b2 : Int} {n : Nat} {q r : Int} (hb : b = b1 * 2 ^ n + b2) (h2 : 0 ≤ b2 ∧ b2 < 2 ^ n) (h3 : 0 ≤ a3 ∧ a3 < 2 ^ n) (e : a12 = q * b1 + r) :
    a12 * 2 ^ n + a3 = q * b + (r * 2 ^ n + a3 - q * b2) := by
  subst e hb
  rw [Int.add_mul, Int.mul_add, Int.mul_assoc]
  (clear h2 h3; lia)
end Mine
/-! N1 -/
namespace Mine
open PySem PySem.W PySem.Spec PySem.Calls PyProof.Rows PySem.SeqAt

noncomputable abbrev pw : Program := PySem.Challenge.pw_uc0028_01

/-- a function of the program's does this -/
noncomputable def Does (C : Cx) (x : Str) (k : Nat) (ds : List D) (d : D) : Prop := ∃ a fd, Fn C x a fd ∧ Call C k (.ref a) ds d

/-- the builtin names that the walk reads -/
noncomputable abbrev usedBi : List Str := ["sum", "len", "min", "range", "reversed", "divmod", "enumerate", "ZeroDivisionError"]
structure Pr (C : Cx) : Prop where
  ok : C.Ok
  no : ∀ x : Str, bootBuiltins x ≠ none → x ∈ usedBi → C.mg x = none
  fn : ∀ (x : Str) (d : DefRec), defOf pw x = some (d, []) → ∃ a, FnD C x a d.params d.body d.scope
  nt : ∃ t, C.mg (Str.ofString "NT_OFFSET") = some (.int 256 t)
  em : ∃ t, C.mg (Str.ofString "ENDMARKER") = some (.int 0 t)
  dl : ∃ t, C.mg (Str.ofString "_DIV_LIMIT") = some (.int 4000 t)

section
variable {C : Cx} {F : Fx} {ρ ρ' ρ'' : Store} {K K' : Fl → Store → Prop}
theorem ev_glob {x : Str} {p : Pos} {i : Int} (hm : ∃ t, C.mg x = some (.int i t)) (hx : F.env.kindOf x = some .globalImplicit) (hd : (x == ("__debug__" : Str)) = false := by decide) : Ev C F ρ (.Name x p) (.int i) := .mk fun W s Q E f q => let ⟨t, e⟩ := hm; global_any f hx e (q _ _ (Ex.refl f.gd) (.int _ _)) hd
theorem ev_call {x : Str} {np pos : Pos} {es : List Expr} {ds : List D} {d : D} {k : Nat} (hc : Does C x k ds d) (h : Evs C F ρ pos es ds) (hk : k ≤ F.k) (hx : F.env.kindOf x = some .globalImplicit) (hd : (x == ("__debug__" : Str)) = false := by decide) :
    Ev C F ρ (.Call (.Name x np) es [] pos) d := let ⟨a, fd, h1, h2⟩ := hc; ev_call_fn h1 h h2 hk hx hd
theorem does {x : Str} {d : DefRec} {k : Nat} {ds : List D} {r : D} {names : List Str} (pr : Pr C) (e : defOf pw x = some (d, []))
    (hnames : d.params.args.map (·.arg) = names) (hnd : names.Nodup) (hlen : names.length = ds.length)
    (hb : ∀ pm cd doc (vs : List Value), vs.length = ds.length → bindArgs (docDef x d.params d.body d.scope pm cd doc) ⟨vs, []⟩ = pure (names.zip vs))
    (hloc : ∀ n ∈ names, d.scope.names.lookup n = some .local)
    (h : ∀ (L a : Addr) (cd : Value) (A : Around) (s : Shared) (hid : Addr → Prop), Ws C (Fx.fn (envOf x d.scope L a cd) A k s hid) (names.zip (ds.map Sl.val)) d.body (fun fl zz => fl = .ret r))
    (hco : d.scope.isCoroutine = false := by rfl) (hgen : d.scope.isGenerator = false := by rfl) (hk : d.scope.kind = .function := by rfl)
    (hcell : ∀ x ∈ d.scope.names, x.2 ≠ .cell := by decide) : Does C x (k + 1) ds r := by
  obtain ⟨a, hf⟩ := pr.fn x d e
  obtain ⟨fd, h1⟩ := hf.fn
  exact ⟨a, fd, h1, call_fn pr.ok hf hnames hnd hlen hb hloc (fun L cd A s hid => h L a cd A s hid) hco hgen hk hcell⟩
end

theorem bt_sum : bootBuiltins "sum" = some (.builtin "sum") := by with_unfolding_all rfl
theorem Pr.sum {C : Cx} (pr : Pr C) : C.mg (Str.ofString "sum") = none := pr.no _ (by rw [bt_sum]; exact nofun) (by decide)
theorem Pr.len {C : Cx} (pr : Pr C) : C.mg (Str.ofString "len") = none := pr.no _ (by rw [show bootBuiltins (Str.ofString "len") = some (.builtin "len") by with_unfolding_all rfl]; exact nofun) (by decide)
theorem kle {a b : Nat} (h : Nat.ble a b = true := by rfl) : a ≤ b := Nat.le_of_ble_eq_true h

/-! ## token -/
noncomputable abbrev P_ist : {d : DefRec // defOf pw "ISTERMINAL" = some (d, [])} := ⟨_, rfl⟩
noncomputable abbrev R_ist : DefRec := P_ist.1
theorem t_ist {C : Cx} (pr : Pr C) (x : Int) : Does C "ISTERMINAL" 2 [.int x] (.bool (decide (x < 256))) := by
  refine does (d := R_ist) (names := ["x"]) pr P_ist.2 rfl (by decide) rfl (fun pm cd doc vs hl => ?_) (by decide) (fun L a cd A s hid => ?_)
  · obtain ⟨v, rfl⟩ := len_1 hl; rfl
  · exact ws_cons (w1_ret (ev_cmp vl (ev_glob pr.nt rfl) cmp_lt (Nat.le_refl _)) rfl)
noncomputable abbrev P_isn : {d : DefRec // defOf pw "ISNONTERMINAL" = some (d, [])} := ⟨_, rfl⟩
noncomputable abbrev R_isn : DefRec := P_isn.1
theorem t_isn {C : Cx} (pr : Pr C) (x : Int) : Does C "ISNONTERMINAL" 2 [.int x] (.bool (decide (x ≥ 256))) := by
  refine does (d := R_isn) (names := ["x"]) pr P_isn.2 rfl (by decide) rfl (fun pm cd doc vs hl => ?_) (by decide) (fun L a cd A s hid => ?_)
  · obtain ⟨v, rfl⟩ := len_1 hl; rfl
  · exact ws_cons (w1_ret (ev_cmp vl (ev_glob pr.nt rfl) cmp_ge (Nat.le_refl _)) rfl)
noncomputable abbrev P_ise : {d : DefRec // defOf pw "ISEOF" = some (d, [])} := ⟨_, rfl⟩
noncomputable abbrev R_ise : DefRec := P_ise.1
theorem t_ise {C : Cx} (pr : Pr C) (x : Int) : Does C "ISEOF" 2 [.int x] (.bool (x == 0)) := by
  refine does (d := R_ise) (names := ["x"]) pr P_ise.2 rfl (by decide) rfl (fun pm cd doc vs hl => ?_) (by decide) (fun L a cd A s hid => ?_)
  · obtain ⟨v, rfl⟩ := len_1 hl; rfl
  · exact ws_cons (w1_ret (ev_cmp vl (ev_glob pr.em rfl) cmp_eq (Nat.le_refl _)) rfl)

/-! ## cells -/
noncomputable abbrev P_cells : {d : DefRec // defOf pw "_law_cells" = some (d, [])} := ⟨_, rfl⟩
noncomputable abbrev R_cells : DefRec := P_cells.1
noncomputable def pickI (ns : List Int) (lo hi st : Option Int) : List Int := (sliceRange (sliceBounds lo hi st ns.length).1 (sliceBounds lo hi st ns.length).2.1 (sliceBounds lo hi st ns.length).2.2).filterMap (ns[·]?)
theorem pick_lI (ns : List Int) (lo hi st : Option Int) : pickD (lI ns) lo hi st = lI (pickI ns lo hi st) := by
  unfold pickD pickI
  rw [ints_len]
  unfold lI
  rw [List.map_filterMap]
  congr 1
  funext k
  rw [List.getElem?_map]
theorem slc_lI {C : Cx} {ns : List Int} {lo hi st : Option Int} (h0 : st ≠ some 0) (hz : ns.length ≤ sizeLine) : Slc C (.lst (lI ns)) lo hi st (.lst (lI (pickI ns lo hi st))) := by
  rw [← pick_lI]; exact slc_list h0 (by rw [ints_len]; exact hz)
noncomputable def cellsAt (script : List Int) : List Int → List Int → List Int
  | done, [] => done
  | done, n :: r => cellsAt script (done ++ [n + (pickI script (some done.length) none (some 7)).sum]) r
noncomputable def firsts : List Int := [1, 4, 6, 11, 14, 2, 0]
noncomputable def cellsOf (script : List Int) : List Int := cellsAt script [] firsts
theorem cellsAt_len (script : List Int) : ∀ r done, (cellsAt script done r).length = done.length + r.length
  | [], _ => rfl
  | n :: r, done => by rw [cellsAt, cellsAt_len script r]; simp; lia

noncomputable def CeI (script : List Int) (rs : List Int) (ρ' : Store) : Prop := ∃ done : List Int, done.length + rs.length = 7 ∧ cellsAt script done rs = cellsOf script ∧ Sub [("cells", .own (lI done)), ("script", .val (.lst (lI script)))] ρ'
theorem t_cells {C : Cx} (pr : Pr C) (h0 : C.hd = none) (script : List Int) (hz : script.length ≤ 63) : Does C "_law_cells" 3 [.lst (lI script)] (.lst (lI (cellsOf script))) := by
  refine does (d := R_cells) (names := ["script"]) pr P_cells.2 rfl (by decide) rfl (fun pm cd doc vs hl => ?_) (by decide) (fun L a cd A s hid => ?_)
  · obtain ⟨v, rfl⟩ := len_1 hl; rfl
  · have hsl : (63 : Nat) ≤ sizeLine := by decide
    refine ws_cons (w1_assign_new (evnew_list evs_nil) ?_ rfl)
    refine ws_forM (xs := firsts) D.int (CeI script) (evit_list (ev_list (evs_cons ev_int (evs_cons ev_int (evs_cons ev_int (evs_cons ev_int (evs_cons ev_int (evs_cons ev_int (evs_cons ev_int evs_nil))))))))) ⟨[], rfl, rfl, rfl, rfl, trivial⟩ ?_ ?_ kle
    · rintro ps se n rs ρ' ⟨dn, hl, e2, hS⟩
      refine ⟨_, as_sub hS (as_name rfl), ?_⟩
      have hb : dn.length ≤ 7 := by simp only [List.length_cons] at hl; (clear hz hsl; lia)
      refine ws_cons (w1_append (d := .int (n + (pickI script (some dn.length) none (some 7)).sum)) rfl rfl (ev_bin vl (ev_call_bi pr.sum bt_sum (evs_cons (ev_slice vl (.some ?_) .none (.some ev_int) (slc_lI (by decide) (by (clear hl hb; lia))) trivial kle) evs_nil) call_sum kle rfl) bin_add kle) ?_ ?_)
      · have := ev_len_own (C := C) (F := (Fx.fn (envOf "_law_cells" R_cells.scope L a cd) A 2 s hid).on ps se) (ρ := [("first", .val (.int n)), ("cells", .own (lI dn)), ("script", .val (.lst (lI script)))]) (x := "cells") (np := ⟨182, 40, 182, 43⟩) (p := ⟨182, 44, 182, 49⟩) (pos := ⟨182, 40, 182, 50⟩) (ds := lI dn) rfl rfl pr.len rfl (by rw [ints_len]; (clear hz hsl hb; lia))
        rw [ints_len] at this
        exact this
      · rw [ints_len]; (clear hz hb; lia)
      · refine ws_nil ⟨dn ++ [n + (pickI script (some dn.length) none (some 7)).sum], by simp at hl ⊢; (clear hz hsl hb; lia), e2, ?_, rfl, trivial⟩
        simp only [lI, List.map_append, List.map_cons, List.map_nil]
        rfl
    · rintro ρ' ⟨dn, hl, e2, hS⟩
      rw [← show dn = cellsOf script from e2]
      exact ws_sub hS (ws_freeze (x := "cells") rfl (ws_cons (w1_ret vl rfl)))
end Mine
/-! N2 -/
namespace Mine
open PySem PySem.W PySem.Spec PySem.Calls PyProof.Rows PySem.SeqAt

noncomputable abbrev P_piece : {d : DefRec // defOf pw "_law_piece" = some (d, [])} := ⟨_, rfl⟩
noncomputable abbrev R_piece : DefRec := P_piece.1
theorem fmod_lt {a b : Int} (h : 0 < b) : 0 ≤ a.fmod b ∧ a.fmod b < b := ⟨Int.fmod_nonneg_of_pos a h, Int.fmod_lt_of_pos a h⟩
theorem t_piece {C : Cx} (pr : Pr C) (cell : Int) : Does C "_law_piece" 2 [.int cell] (.str (pieceOf cell)) := by
  refine does (d := R_piece) (names := ["cell"]) pr P_piece.2 rfl (by decide) rfl (fun pm cd doc vs hl => ?_) (by decide) (fun L a cd A s hid => ?_)
  · obtain ⟨v, rfl⟩ := len_1 hl; rfl
  · have hm := fmod_lt (a := cell) (b := 5) (by decide)
    refine ws_cons (w1_ret (ev_sub (ev_list (evs_cons ev_str (evs_cons ev_str (evs_cons ev_str (evs_cons ev_str (evs_cons ev_str evs_nil)))))) (ev_bin vl ev_int (bin_mod (by decide)) kle) (itm_list hm.1 (by omega) ?_) trivial kle) rfl)
    unfold pieceOf
    have : (cell.fmod 5).toNat < 5 := by omega
    match (cell.fmod 5).toNat, this with
    | 0, _ => rfl
    | 1, _ => rfl
    | 2, _ => rfl
    | 3, _ => rfl
    | 4, _ => rfl

noncomputable abbrev P_cols : {d : DefRec // defOf pw "_law_columns" = some (d, [])} := ⟨_, rfl⟩
noncomputable abbrev R_cols : DefRec := P_cols.1
theorem getLast_lI (h : List Int) (hne : 0 < h.length) : (lI h)[((-1 : Int) + (lI h).length).toNat]? = some (.int (h.getD (h.length - 1) 0)) := by
  rw [ints_len]
  have : ((-1 : Int) + h.length).toNat = h.length - 1 := by lia
  rw [this, lI, List.getElem?_map, List.getElem?_eq_getElem (by (clear this; omega)), Option.map_some, List.getD_eq_getElem?_getD, List.getElem?_eq_getElem (by (clear this; omega))]
  rfl
noncomputable def CoI (cols : List Int) (rs : List (Int × Str)) (xs : List (Int × Str)) (ρ' : Store) : Prop := ∃ hs : List Int, (∀ x ∈ xs, x ∈ rs) ∧ 0 < hs.length ∧ hs.length + 3 * xs.length ≤ 30 ∧ colsFrom hs xs = cols ∧ Sub [("heights", .own (lI hs))] ρ'
theorem t_cols {C : Cx} (pr : Pr C) (h0 : C.hd = none) (r : Int × Str) (rs : List (Int × Str)) (hn : rs.length ≤ 8) (hr : ∀ x ∈ r :: rs, 1 ≤ x.1 ∧ x.1 ≤ 3) : Does C "_law_columns" 3 [rowsD (r :: rs)] (.lst (lI (colsOf (r :: rs)))) := by
  refine does (d := R_cols) (names := ["rows"]) pr P_cols.2 rfl (by decide) rfl (fun pm cd doc vs hl => ?_) (by decide) (fun L a cd A s hid => ?_)
  · obtain ⟨v, rfl⟩ := len_1 hl; rfl
  · have hsl : (1000 : Nat) ≤ sizeLine := by decide
    have h0 := hr r (.head _)
    refine ws_cons (w1_assign_new (evnew_lmul (ev_list (evs_cons ev_int evs_nil)) (ev_sub (ev_sub (d := rowD r) vl ev_int (itm_list (by decide) (by decide) rfl) trivial kle) ev_int (itm_tup (j := 0) (by decide) (by decide) rfl rfl) trivial kle) nofun (by (clear hn hsl; lia)) (by (clear hn hsl; omega)) (by simp only [List.length_cons, List.length_nil]; (clear hn hsl; lia))) ?_ rfl)
    rw [lI_rep]
    refine ws_forM (xs := rs) rowD (CoI (colsOf (r :: rs)) rs) (evit_list (ds := rs.map rowD) (ev_slice vl (.some ev_int) .none .none (slc_from (ds := (r :: rs).map rowD) (k := 1) ?_) trivial kle)) ⟨_, fun zz h => h, ?_, ?_, rfl, rfl, trivial⟩ ?_ ?_ kle
    · simp only [List.map_cons, List.length_cons, List.length_map]; (clear h0; lia)
    · rw [List.length_replicate]; (clear hn hsl; grind)
    · rw [List.length_replicate]; (clear hsl; grind)
    · rintro ps se x xs ρ' ⟨hs, hm, hp, hl, e2, hS⟩
      have hx := hr x (.tail _ (hm x (.head _)))
      simp only [List.length_cons] at hl
      refine ⟨_, as_sub hS (as_tuple (.cons (as_name rfl) (.cons (as_name rfl) .nil rfl) rfl)), ?_⟩
      refine ws_cons (w1_augneg (x := "heights") (ds := lI hs) (k := -1) rfl rfl (ev_un ev_int un_neg kle) (by decide) (by rw [ints_len]; (clear hn hsl h0 hl hx; lia)) (by decide) (getLast_lI hs hp) ev_int iop_add ?_ kle)
      have hb : (lI hs).set ((-1 : Int) + (lI hs).length).toNat (.int (hs.getD (hs.length - 1) 0 + 1)) = lI (bump hs) := by
        unfold bump
        rw [lI_set, ints_len]
        congr 1
        (clear hn hsl h0 hl hx; lia)
      rw [hb]
      refine ws_cons (w1_extend (x := "heights") (ds := lI (bump hs)) (es := lI (List.replicate (x.1 - 1).toNat 1)) rfl rfl ?_ ?_ ?_)
      · rw [← lI_rep]
        exact ev_bin (ev_list (evs_cons ev_int evs_nil)) (ev_bin vl ev_int bin_sub kle) (bin_lmul nofun (by (clear hn hsl h0 hp hl; lia)) (by (clear hn hsl h0 hp hl; lia)) (by simp only [List.length_cons, List.length_nil]; (clear hn hsl h0 hp hl; omega))) kle
      · rw [ints_len, ints_len, bump_len, List.length_replicate]; (clear hn h0 hp; omega)
      · refine ws_nil ⟨bump hs ++ List.replicate (x.1 - 1).toNat 1, fun y h => hm y (.tail _ h), ?_, ?_, e2, ?_, trivial⟩
        · rw [List.length_append, bump_len]; (clear hn hsl h0 hl hx; omega)
        · rw [List.length_append, bump_len, List.length_replicate]; (clear hn hsl h0 hp; omega)
        · rw [lI_append]; rfl
    · rintro ρ' ⟨hs, hm, hp, hl, e2, hS⟩
      rw [← show hs = colsOf _ from e2]
      exact ws_sub hS (ws_freeze (x := "heights") rfl (ws_cons (w1_ret vl rfl)))
end Mine
/-! N3 -/
namespace Mine
open PySem PySem.W PySem.Spec PySem.Calls PyProof.Rows PySem.SeqAt

theorem Ts.cast {C : Cx} {F : Fx} {ρ : Store} {e : Expr} {b b' : Bool} (q : b = b') (h : Ts C F ρ e b) : Ts C F ρ e b' := q ▸ h
theorem Ev.cast {C : Cx} {F : Fx} {ρ : Store} {e : Expr} {b b' : D} (q : b = b') (h : Ev C F ρ e b) : Ev C F ρ e b' := q ▸ h
theorem TsAll.and2 {C : Cx} {F : Fx} {ρ : Store} {e f : Expr} {b c : Bool} (h1 : Ts C F ρ e b) (h2 : Ts C F ρ f c) : TsAll C F ρ .And [e, f] (b && c) := by
  refine .and_cons h1 (fun q => ?_) (fun q => by rw [q]; rfl)
  subst q
  refine .and_cons h2 (fun q => ?_) (fun q => by rw [q]; rfl)
  subst q
  exact .and_nil
theorem TsAll.or2 {C : Cx} {F : Fx} {ρ : Store} {e f : Expr} {b c : Bool} (h1 : Ts C F ρ e b) (h2 : Ts C F ρ f c) : TsAll C F ρ .Or [e, f] (b || c) := by
  refine .or_cons h1 (fun q => ?_) (fun q => by rw [q]; rfl)
  subst q
  cases c with
  | true => exact .or_cons h2 nofun fun zz => rfl
  | false => exact .or_cons h2 (fun zz => .or_nil) nofun
theorem ws_if {C : Cx} {F : Fx} {ρ σ : Store} {K : Fl → Store → Prop} {test : Expr} {body orelse rest : List Stmt} {p : Pos} {b : Bool} (ht : Ts C F ρ test b)
    (h1 : b = true → Ws C F ρ body (fun fl ρ' => match fl with | .next => Sub σ ρ' | fl => K fl ρ')) (h2 : b = false → Ws C F ρ orelse (fun fl ρ' => match fl with | .next => Sub σ ρ' | fl => K fl ρ')) (hr : Ws C F σ rest K) : Ws C F ρ (.If test body orelse p :: rest) K :=
  ws_cons (w1_if ht (fun q => ws_mono (h1 q) fun fl ρ' h => by cases fl <;> first | exact h | exact ws_sub h hr) (fun q => ws_mono (h2 q) fun fl ρ' h => by cases fl <;> first | exact h | exact ws_sub h hr))

/-! the tilings -/
noncomputable def waysN : Nat → List (List Int)
  | 0 => [[]]
  | 1 => [[1]]
  | n + 2 => (waysN (n + 1)).map (· ++ [1]) ++ (waysN n).map (· ++ [2])
noncomputable abbrev wayD (w : List Int) : D := .lst (lI w)
noncomputable abbrev waysD (ws : List (List Int)) : D := .lst (ws.map wayD)
noncomputable def allWays (m : Nat) : List D := (List.range m).map fun n => waysD (waysN n)
theorem allWays_succ (m : Nat) : allWays (m + 1) = allWays m ++ [waysD (waysN m)] := by unfold allWays; rw [List.range_succ, List.map_append]; rfl
theorem allWays_len (m : Nat) : (allWays m).length = m := by simp [allWays]
theorem allWays_get {m k : Nat} (h : k < m) : (allWays m)[k]? = some (waysD (waysN k)) := by
  unfold allWays; rw [List.getElem?_map, List.getElem?_range h]; rfl

noncomputable abbrev Ent := Int × Str × Int
noncomputable abbrev entD (e : Ent) : D := .tup [.int e.1, .str e.2.1, .int e.2.2]
noncomputable def rowAt (rows : List (Int × Str)) (k : Nat) : Int × Str := rows.getD k (0, "")
noncomputable def sizesPage (rows : List (Int × Str)) (cell : Int) : List Ent → Nat → List Int → List Ent
  | pg, _, [] => pg
  | pg, pl, s :: r => if s == 1 then sizesPage rows cell (pg ++ [((rowAt rows pl).1, (rowAt rows pl).2, 0)]) (pl + 1) r
    else sizesPage rows cell (pg ++ [((0, pieceOf (cell + (pg.length : Int)) ++ "\"", 1) : Ent)] ++ [((rowAt rows pl).1, (rowAt rows pl).2, 2)] ++ [((rowAt rows (pl + 1)).1, (rowAt rows (pl + 1)).2, 2)] ++ [((0, pieceOf (cell + (pg.length + 3 : Nat)) ++ "\"", 3) : Ent)]) (pl + 2) r
noncomputable def signOf (w : List Int) : Str := if w.count 2 % 2 = 0 then "+" else "-"
noncomputable def wayHead (alone : Bool) (pg : List Ent) (w : List Int) : List Ent := (if alone && !w.contains 2 then pg ++ [((0, "\"", 0) : Ent)] else pg) ++ [((0, signOf w, 0) : Ent)]
noncomputable def pageFrom (rows : List (Int × Str)) (cell : Int) (alone : Bool) : List Ent → List (List Int) → List Ent
  | pg, [] => pg
  | pg, w :: r => pageFrom rows cell alone (sizesPage rows cell (wayHead alone pg w) 0 w) r
noncomputable def sumPage (rows : List (Int × Str)) (cell : Int) (alone : Bool) : List Ent := pageFrom rows cell alone [] (waysN rows.length).reverse

theorem piece_len (cell : Int) : (pieceOf cell).length ≤ 4 := by
  unfold pieceOf
  match (cell.fmod 5).toNat with
  | 0 => decide
  | 1 => decide
  | 2 => decide
  | 3 => decide
  | n + 4 => exact (by decide : ("\\\\\\\"" : Str).length ≤ 4)
theorem bt_len : bootBuiltins "len" = some (.builtin "len") := by with_unfolding_all rfl

theorem waysN_small : ∀ n, n ≤ 4 → (waysN n).length ≤ 5 ∧ ∀ w ∈ waysN n, w.length ≤ 4 ∧ w.sum = n ∧ ∀ s ∈ w, s = 1 ∨ s = 2
  | 0, _ => by decide
  | 1, _ => by decide
  | 2, _ => by decide
  | 3, _ => by decide
  | 4, _ => by decide
  | n + 5, h => by lia

/-- what holds between two ways, and between two sizes of a way -/
noncomputable def SumW (rows : List (Int × Str)) (cell : Int) (alone : Bool) (ws : List (List Int)) (ρ' : Store) : Prop := ∃ pg : List Ent, (∀ w ∈ ws, w ∈ waysN rows.length) ∧ pg.length + 100 * ws.length ≤ 500 ∧ pageFrom rows cell alone pg ws = sumPage rows cell alone ∧ Sub [("page", .own (pg.map entD)), ("rows", .val (rowsD rows)), ("cell", .val (.int cell)), ("alone", .val (.bool alone))] ρ'
noncomputable def SumS (rows : List (Int × Str)) (cell : Int) (alone : Bool) (pg2 : List Ent) (w : List Int) (k : Nat) (ss : List Int) (ρ' : Store) : Prop := ∃ (pg : List Ent) (pl : Nat), (∀ s ∈ ss, s = 1 ∨ s = 2) ∧ (pl : Int) + ss.sum = rows.length ∧ pg.length + 4 * ss.length ≤ 400 + 96 - 100 * k ∧ sizesPage rows cell pg pl ss = sizesPage rows cell pg2 0 w ∧
  Sub [("place", .val (.int (pl : Int))), ("page", .own (pg.map entD)), ("rows", .val (rowsD rows)), ("cell", .val (.int cell)), ("alone", .val (.bool alone))] ρ'

noncomputable abbrev P_sum : {d : DefRec // defOf pw "_law_sum" = some (d, [])} := ⟨_, rfl⟩
noncomputable abbrev R_sum : DefRec := P_sum.1
theorem Itm.cast {C : Cx} {a b d d' : D} (q : d = d') (h : Itm C a b d) : Itm C a b d' := q ▸ h
set_option maxHeartbeats 1000000 in
theorem t_sum {C : Cx} (pr : Pr C) (h0 : C.hd = none) (rows : List (Int × Str)) (cell : Int) (alone : Bool) (hn : rows.length ≤ 4) : Does C "_law_sum" 4 [rowsD rows, .int cell, .bool alone] (.lst ((sumPage rows cell alone).map entD)) := by
  refine does (d := R_sum) (names := ["rows", "cell", "alone"]) pr P_sum.2 rfl (by decide) rfl (fun pm cd doc vs hl => ?_) (by decide) (fun L a cd A s hid => ?_)
  · obtain ⟨v, w, u, rfl⟩ := len_3 hl; rfl
  · have hsl : (100000 : Nat) ≤ sizeLine := by decide
    have hrl : (rows.map rowD).length = rows.length := List.length_map _
    refine ws_cons (w1_assign_new (ds := allWays 2) (evnew_list (ds := allWays 2) (evs_cons (d := waysD (waysN 0)) (ev_list (ds := [wayD []]) (evs_cons (ev_list evs_nil) evs_nil)) (evs_cons (d := waysD (waysN 1)) (ev_list (ds := [wayD [1]]) (evs_cons (ev_list (evs_cons ev_int evs_nil)) evs_nil)) evs_nil))) ?_ rfl)
    refine ws_while (α := Nat) (fun m => [("ways", .own (allWays m)), ("rows", .val (rowsD rows)), ("cell", .val (.int cell)), ("alone", .val (.bool alone))]) (fun m => 10 - m) (fun m => 2 ≤ m ∧ m ≤ 5 ∧ (m = 2 ∨ m ≤ rows.length + 1)) 2 ⟨rfl, rfl, rfl, rfl, trivial⟩ (by (clear hn hsl hrl; lia)) ?_
    rintro m ⟨hm1, hm2, hm3⟩
    refine ⟨decide (m ≤ rows.length), ?_, fun hb => ?_, fun hb => ?_⟩
    · have e : decide (((allWays m).length : Int) ≤ (rows.map rowD).length) = decide (m ≤ rows.length) := by
        rw [allWays_len, hrl, decide_eq_decide]; (clear hn hsl hm1 hm2 hm3; omega)
      exact Ts.cast e (ts_cmp (ev_len_own (x := "ways") (ds := allWays m) rfl rfl pr.len rfl (by rw [allWays_len]; (clear hn hsl hrl hm3 e; lia))) (ev_call_bi pr.len bt_len (evs_cons vl evs_nil) (call_len_lst (ds := rows.map rowD) (by (clear hsl hm1 hm2 hm3 e; lia))) kle rfl) (cmp_le (a := (allWays m).length)) kle)
    · have hb := of_decide_eq_true hb
      have g1 : (allWays m)[((-1 : Int) + (allWays m).length).toNat]? = some (waysD (waysN (m - 1))) := by
        rw [allWays_len, show ((-1 : Int) + m).toNat = m - 1 by (clear hn hsl hrl hm3 hb; grind), allWays_get (by (clear hn hsl hrl hm3 hb; omega))]
      have g2 : (allWays m)[((-2 : Int) + (allWays m).length).toNat]? = some (waysD (waysN (m - 2))) := by
        rw [allWays_len, show ((-2 : Int) + m).toNat = m - 2 by (clear hn hsl hrl hm3 hb; lia), allWays_get (by (clear hn hsl hrl hm3 hb; omega))]
      have s1 := waysN_small (m - 1) (by (clear hn hsl hrl hm3 hb; lia))
      have s2 := waysN_small (m - 2) (by (clear hn hsl hrl hm3 hb s1; omega))
      refine ws_cons (w1_append (x := "ways") (ds := allWays m) (d := waysD (waysN m)) rfl rfl ?_ (by rw [allWays_len]; (clear hn hrl hm3 hb s1 s2; lia)) ?_)
      · have key : ∀ (k : Nat) (n : Int), ((waysN k).map wayD).map (fun d => match d with | .lst l => .lst (l ++ [.int n]) | d => d) = (waysN k).map fun w => wayD (w ++ [n]) := by
          intro k n
          rw [List.map_map]
          apply List.map_congr_left
          intro w _
          show D.lst (lI w ++ [.int n]) = D.lst (lI (w ++ [n]))
          rw [lI_append]; rfl
        have e : waysD (waysN m) = .lst (((waysN (m - 1)).map wayD).map (fun d => match d with | .lst l => .lst (l ++ [.int 1]) | d => d) ++ ((waysN (m - 2)).map wayD).map (fun d => match d with | .lst l => .lst (l ++ [.int 2]) | d => d)) := by
          rw [key, key]
          obtain ⟨k, rfl⟩ : ∃ k, m = k + 2 := ⟨m - 2, by (clear hn hsl hrl hm3 hb s1 s2; grind)⟩
          show D.lst ((waysN (k + 2)).map wayD) = _
          rw [waysN, List.map_append, List.map_map, List.map_map]
          rfl
        rw [e]
        refine ev_bin (ev_listcomp (ρc := []) (cl := []) (ds := (waysN (m - 1)).map wayD) (ev_sub_own (x := "ways") (ds := allWays m) rfl rfl (ev_un ev_int un_neg kle) (.inr ⟨by decide, by rw [allWays_len]; (clear hn hsl hrl hm3 hb s1 s2; lia), by decide, g1⟩)) (by rw [List.length_map]; (clear hn hrl hm1 hm2 hm3 hb s2; lia)) rfl nofun (by decide) rfl (by decide) nofun ?_ kle)
          (ev_listcomp (ρc := []) (cl := []) (ds := (waysN (m - 2)).map wayD) (ev_sub_own (x := "ways") (ds := allWays m) rfl rfl (ev_un ev_int un_neg kle) (.inr ⟨by decide, by rw [allWays_len]; (clear hn hsl hrl hm3 hb s1 s2; lia), by decide, g2⟩)) (by rw [List.length_map]; (clear hn hrl hm1 hm2 hm3 hb s1; lia)) rfl nofun (by decide) rfl (by decide) nofun ?_ kle) (bin_ladd ?_) kle
        · intro L sc H gens ps se d hd
          obtain ⟨w, hw, rfl⟩ := List.mem_map.mp hd
          have := (s1.2 w hw).1
          exact ⟨_, as_name rfl, trivial, ev_bin (a := .lst (lI w)) vl (ev_list (evs_cons ev_int evs_nil)) (bin_ladd (by rw [ints_len]; simp only [List.length_cons, List.length_nil]; (clear hn hrl hm1 hm2 hm3 hb s1 s2; lia))) kle⟩
        · intro L sc H gens ps se d hd
          obtain ⟨w, hw, rfl⟩ := List.mem_map.mp hd
          have := (s2.2 w hw).1
          exact ⟨_, as_name rfl, trivial, ev_bin (a := .lst (lI w)) vl (ev_list (evs_cons ev_int evs_nil)) (bin_ladd (by rw [ints_len]; simp only [List.length_cons, List.length_nil]; (clear hn hrl hm1 hm2 hm3 hb s1 s2; lia))) kle⟩
        · simp only [List.length_map]; (clear hn hrl hm1 hm2 hm3 hb; lia)
      · exact ws_nil ⟨m + 1, by (clear hn hsl hrl hm3 hb s1 s2; grind), by (clear hsl hm3 s1 s2; grind), by rw [allWays_succ]; rfl, rfl, rfl, rfl, trivial⟩
    · have hb := of_decide_eq_false hb
      have hmn : rows.length < m := by (clear hn hsl hm1 hm2 hm3; lia)
      have hrn : ∀ k, k < rows.length → (rows.map rowD)[k]? = some (rowD (rowAt rows k)) := by
        intro k hk
        rw [List.getElem?_map, List.getElem?_eq_getElem hk]
        simp [rowAt, List.getD_eq_getElem?_getD, List.getElem?_eq_getElem hk]
      have s0 := waysN_small rows.length hn
      refine ws_cons (w1_assign_new (evnew_list evs_nil) ?_ rfl)
      refine ws_forM (xs := (waysN rows.length).reverse) wayD (SumW rows cell alone) (by rw [List.map_reverse]; exact evit_list (ev_slice (ev_sub_own (x := "ways") (ds := allWays m) (d := waysD (waysN rows.length)) rfl rfl (ev_call_bi pr.len bt_len (evs_cons vl evs_nil) (call_len_lst (ds := rows.map rowD) (by (clear hsl hm1 hm2 hm3 hb hmn s0; lia))) kle rfl) (.inl ⟨by (clear hsl hm1 hm2 hm3 hb hmn s0; lia), by (clear hsl hm1 hm2 hm3 hb hmn s0; lia), by rw [hrl, Int.toNat_natCast]; exact allWays_get hmn⟩)) .none .none (.some (ev_un ev_int un_neg kle)) (slc_rev (ds := (waysN rows.length).map wayD) (by rw [List.length_map]; (clear hn hrl hm1 hm2 hm3 hb hmn; lia))) trivial kle))
        ⟨[], fun w h => List.mem_reverse.mp h, by rw [List.length_reverse, List.length_nil]; (clear hn hsl hrl hm1 hm2 hm3 hb hmn; lia), rfl, rfl, rfl, rfl, rfl, trivial⟩ ?_ ?_ kle
      · rintro ps se w ws ρ' ⟨pg, hm, hl, e2, hS⟩
        have hw := s0.2 w (hm w (.head _))
        simp only [List.length_cons] at hl
        refine ⟨_, as_sub hS (as_name rfl), ?_⟩
        refine ws_if (b := alone && !w.contains 2) (σ := [("way", .val (wayD w)), ("page", .own ((if alone && !w.contains 2 then pg ++ [((0, "\"", 0) : Ent)] else pg).map entD)), ("rows", .val (rowsD rows)), ("cell", .val (.int cell)), ("alone", .val (.bool alone))])
          (ts_bool (.and2 (ts_val (d := .bool alone) vl rfl trivial) (ts_cmp ev_int vl (cmp_notin (ns := w)) kle))) (fun q => ?_) (fun q => ?_) ?_
        · rw [if_pos q]
          refine ws_cons (w1_append (x := "page") (ds := pg.map entD) (d := entD (0, "\"", 0)) rfl rfl (ev_tuple (evs_cons ev_int (evs_cons ev_str (evs_cons ev_int evs_nil))) kle) (by rw [List.length_map]; (clear hn hrl hm1 hm2 hm3 hb hmn s0 hw q; lia)) ?_)
          exact ws_nil ⟨rfl, by rw [List.map_append]; rfl, rfl, rfl, rfl, trivial⟩
        · rw [if_neg (by rw [q]; exact nofun)]
          exact ws_nil ⟨rfl, rfl, rfl, rfl, rfl, trivial⟩
        generalize hpg : (if alone && !w.contains 2 then pg ++ [((0, "\"", 0) : Ent)] else pg) = pg'
        have hpl : pg'.length ≤ pg.length + 1 := by
          rw [← hpg]; split
          · rw [List.length_append]; exact Nat.le_refl _
          · (clear hn hsl hrl hm1 hm2 hm3 hb hmn s0 hl hw; lia)
        have hwh : wayHead alone pg w = pg' ++ [(0, signOf w, 0)] := by unfold wayHead; rw [hpg]
        refine ws_cons (w1_append (x := "page") (ds := pg'.map entD) (d := entD (0, signOf w, 0)) rfl rfl (ev_tuple (evs_cons ev_int (evs_cons (ev_sub ev_str (ev_bin (ev_meth (T := "list") (vl (d := wayD w)) (evs_cons ev_int evs_nil) rfl (call_count (ns := w)) kle PySem.F.plainAttrs_list PySem.F.slot_list_count PySem.F.type_list_count) ev_int (bin_mod (by decide)) kle) (Itm.cast ?_ (itm_str (c := if w.count 2 % 2 = 0 then 43 else 45) ?_ ?_)) trivial kle) (evs_cons ev_int evs_nil))) kle) (by rw [List.length_map]; (clear hn hrl hm1 hm2 hm3 hb hmn s0 hw; lia)) ?_)
        · unfold signOf
          split <;> rfl
        · have := fmod_lt (a := ((w.count 2 : Nat) : Int)) (b := 2) (by decide)
          rw [Bool.or_eq_false_iff, decide_eq_false_iff_not, decide_eq_false_iff_not]; (clear hn hsl hrl hm1 hm2 hm3 hb hmn s0 hl hw hpl; omega)
        · rw [show ((w.count 2 : Nat) : Int).fmod 2 = ((w.count 2 % 2 : Nat) : Int) by rw [Int.fmod_eq_emod_of_nonneg _ (by decide)]; rfl]
          have h2 : w.count 2 % 2 < 2 := Nat.mod_lt _ (by decide)
          match w.count 2 % 2, h2 with
          | 0, _ => rfl
          | 1, _ => rfl
        have e3 : pg'.map entD ++ [entD (0, signOf w, 0)] = (wayHead alone pg w).map entD := by rw [hwh, List.map_append]; rfl
        rw [e3]
        have hpl2 : (wayHead alone pg w).length ≤ pg.length + 2 := by rw [hwh, List.length_append]; show pg'.length + 1 ≤ _; (clear hn hsl hrl hm1 hm2 hm3 hb hmn s0 hl hw; lia)
        generalize hq : wayHead alone pg w = pg2 at hpl2
        refine ws_cons (w1_assign (d := .int 0) ev_int ?_ rfl)
        refine ws_forM (xs := w) D.int (SumS rows cell alone pg2 w ws.length) (evit_list (vl (d := wayD w)))
          ⟨pg2, 0, hw.2.2, by rw [hw.2.1]; (clear hn hsl hrl hm1 hm2 hm3 hb hmn s0 hl hw hpl hpl2; lia), by (clear hn hsl hrl hm1 hm2 hm3 hb hmn s0 hpl; lia), rfl, rfl, rfl, rfl, rfl, rfl, trivial⟩ ?_ ?_ kle
        · rintro ps2 se2 z ss ρ2 ⟨pg, pl, hss, hsum, hlen, e4, hS2⟩
          have hz := hss z (.head _)
          have hss' : ∀ s ∈ ss, s = 1 ∨ s = 2 := fun s h => hss s (.tail _ h)
          have hnn : ∀ l : List Int, (∀ s ∈ l, s = 1 ∨ s = 2) → 0 ≤ l.sum := by
            intro l
            induction l with
            | nil => intro _; exact Int.le_refl _
            | cons a l ih => intro h; rw [List.sum_cons]; have h1 := h a (.head _); have h2 := ih fun s hs => h s (.tail _ hs); (clear hn hsl hrl hm1 hm2 hm3 hb hmn s0 hl hw hpl hpl2 hsum hlen hz; lia)
          have hsnn := hnn ss hss'
          rw [List.sum_cons] at hsum
          simp only [List.length_cons] at hlen
          refine ⟨_, as_sub hS2 (as_name rfl), ?_⟩
          refine ws_if (b := z == 1) (σ := [("size", .val (.int z)), ("place", .val (.int (pl : Int))), ("page", .own ((if z == 1 then pg ++ [((rowAt rows pl).1, (rowAt rows pl).2, 0)] else pg ++ [((0, pieceOf (cell + (pg.length : Int)) ++ "\"", 1) : Ent)] ++ [((rowAt rows pl).1, (rowAt rows pl).2, 2)] ++ [((rowAt rows (pl + 1)).1, (rowAt rows (pl + 1)).2, 2)] ++ [((0, pieceOf (cell + (pg.length + 3 : Nat)) ++ "\"", 3) : Ent)]).map entD)), ("rows", .val (rowsD rows)), ("cell", .val (.int cell)), ("alone", .val (.bool alone))])
            (ts_cmp vl ev_int cmp_eq kle) (fun q => ?_) (fun q => ?_) ?_
          · rw [if_pos q]
            have hz1 : z = 1 := by simpa using q
            refine ws_cons (w1_append (x := "page") (ds := pg.map entD) (d := entD ((rowAt rows pl).1, (rowAt rows pl).2, 0)) rfl rfl (ev_bin (ev_sub (d := rowD (rowAt rows pl)) (vl (d := rowsD rows)) vl (itm_list (by (clear hn hsl hrl hm1 hm2 hm3 hb hmn s0 hl hw hpl hpl2 hsum hlen hz hsnn q hz1; lia)) (by (clear hsl hm1 hm2 hm3 hb hmn s0 hl hpl hpl2 hlen hz q; lia)) (by rw [Int.toNat_natCast]; exact hrn pl (by (clear hn hsl hm1 hm2 hm3 hb hmn s0 hl hpl hpl2 hlen hz q; lia)))) trivial kle) (ev_tuple (evs_cons ev_int evs_nil) kle) (bin_tadd nofun nofun kle) kle) (by rw [List.length_map]; (clear hn hrl hm1 hm2 hm3 hb hmn s0 hl hw hpl hpl2 hsum hsnn q; lia)) ?_)
            exact ws_nil ⟨rfl, rfl, by rw [List.map_append]; rfl, rfl, rfl, rfl, trivial⟩
          · rw [if_neg (by rw [q]; exact nofun)]
            have hz2 : z = 2 := by have : z ≠ 1 := by simpa using q
                                   (clear hn hsl hrl hm1 hm2 hm3 hb hmn s0 hl hw hpl hpl2 hsum hlen hsnn q; lia)
            have hpc := fun c => piece_len c
            refine ws_cons (w1_append (x := "page") (ds := pg.map entD) (d := entD (0, pieceOf (cell + (pg.length : Int)) ++ "\"", 1)) rfl rfl (ev_tuple (evs_cons ev_int (evs_cons (ev_bin (ev_call (t_piece pr (cell + (pg.length : Int))) (evs_cons (ev_bin vl (Ev.cast (by rw [List.length_map]) (ev_len_own (x := "page") (ds := pg.map entD) rfl rfl pr.len rfl (by rw [List.length_map]; (clear hn hsl hrl hm1 hm2 hm3 hb hmn s0 hl hw hpl hpl2 hsum hsnn q; omega)))) bin_add kle) evs_nil) kle rfl) ev_str (bin_sadd (by have := hpc (cell + (pg.length : Int)); show (pieceOf (cell + (pg.length : Int))).length + 1 ≤ _; (clear hn hrl hm1 hm2 hm3 hb hmn s0 hl hw hpl hpl2 hsum hlen hz hsnn q hz2; lia))) kle) (evs_cons ev_int evs_nil))) kle) (by rw [List.length_map]; (clear hn hrl hm1 hm2 hm3 hb hmn s0 hl hw hpl hpl2 hsum hsnn q; lia)) ?_)
            have m1 : ∀ (a : List Ent) (e : Ent), a.map entD ++ [entD e] = (a ++ [e]).map entD := by intro a e; rw [List.map_append]; rfl
            rw [m1]
            have l1 : (pg ++ [((0, pieceOf (cell + (pg.length : Int)) ++ "\"", 1) : Ent)]).length = pg.length + 1 := by rw [List.length_append]; rfl
            generalize pg ++ [((0, pieceOf (cell + (pg.length : Int)) ++ "\"", 1) : Ent)] = pga at l1
            refine ws_cons (w1_append (x := "page") (ds := pga.map entD) (d := entD ((rowAt rows pl).1, (rowAt rows pl).2, 2)) rfl rfl (ev_bin (ev_sub (d := rowD (rowAt rows pl)) (vl (d := rowsD rows)) vl (itm_list (by (clear hn hsl hrl hm1 hm2 hm3 hb hmn s0 hl hw hpl hpl2 hsum hlen hz hsnn q hz2 l1; lia)) (by (clear hsl hm1 hm2 hm3 hb hmn s0 hl hpl hpl2 hlen hz q l1; lia)) (by rw [Int.toNat_natCast]; exact hrn pl (by (clear hn hsl hm1 hm2 hm3 hb hmn s0 hl hpl hpl2 hlen hz q l1; lia)))) trivial kle) (ev_tuple (evs_cons ev_int evs_nil) kle) (bin_tadd nofun nofun kle) kle) (by rw [List.length_map]; (clear hn hrl hm1 hm2 hm3 hb hmn s0 hl hw hpl hpl2 hsum hsnn q; lia)) ?_)
            rw [m1]
            have l2 : (pga ++ [((rowAt rows pl).1, (rowAt rows pl).2, (2 : Int))]).length = pg.length + 2 := by rw [List.length_append, l1]; rfl
            generalize pga ++ [((rowAt rows pl).1, (rowAt rows pl).2, (2 : Int))] = pgb at l2
            refine ws_cons (w1_append (x := "page") (ds := pgb.map entD) (d := entD ((rowAt rows (pl + 1)).1, (rowAt rows (pl + 1)).2, 2)) rfl rfl (ev_bin (ev_sub (d := rowD (rowAt rows (pl + 1))) (vl (d := rowsD rows)) (ev_bin vl ev_int bin_add kle) (itm_list (by (clear hn hsl hrl hm1 hm2 hm3 hb hmn s0 hl hw hpl hpl2 hsum hlen hz hsnn q hz2 l1 l2; lia)) (by (clear hsl hm1 hm2 hm3 hb hmn s0 hl hpl hpl2 hlen hz q l1 l2; lia)) (by rw [show ((pl : Int) + 1).toNat = pl + 1 by (clear hn hsl hrl hm1 hm2 hm3 hb hmn s0 hl hw hpl hpl2 hsum hlen hz hsnn q hz2 l1 l2; lia)]; exact hrn (pl + 1) (by (clear hn hsl hm1 hm2 hm3 hb hmn s0 hl hpl hpl2 hlen hz q l1 l2; lia)))) trivial kle) (ev_tuple (evs_cons ev_int evs_nil) kle) (bin_tadd nofun nofun kle) kle) (by rw [List.length_map]; (clear hn hrl hm1 hm2 hm3 hb hmn s0 hl hw hpl hpl2 hsum hsnn q; lia)) ?_)
            rw [m1]
            have l3 : (pgb ++ [((rowAt rows (pl + 1)).1, (rowAt rows (pl + 1)).2, (2 : Int))]).length = pg.length + 3 := by rw [List.length_append, l2]; rfl
            generalize pgb ++ [((rowAt rows (pl + 1)).1, (rowAt rows (pl + 1)).2, (2 : Int))] = pgc at l3
            refine ws_cons (w1_append (x := "page") (ds := pgc.map entD) (d := entD (0, pieceOf (cell + (pg.length + 3 : Nat)) ++ "\"", 3)) rfl rfl (ev_tuple (evs_cons ev_int (evs_cons (ev_bin (ev_call (t_piece pr (cell + (pg.length + 3 : Nat))) (evs_cons (ev_bin vl (Ev.cast (by rw [List.length_map, l3]) (ev_len_own (x := "page") (ds := pgc.map entD) rfl rfl pr.len rfl (by rw [List.length_map]; (clear hn hsl hrl hm1 hm2 hm3 hb hmn s0 hl hw hpl hpl2 hsum hsnn q; lia)))) bin_add kle) evs_nil) kle rfl) ev_str (bin_sadd (by have := hpc (cell + (pg.length + 3 : Nat)); show (pieceOf (cell + (pg.length + 3 : Nat))).length + 1 ≤ _; (clear hn hrl hm1 hm2 hm3 hb hmn s0 hl hw hpl hpl2 hsum hlen hz hsnn q hz2 l1 l2 l3; lia))) kle) (evs_cons ev_int evs_nil))) kle) (by rw [List.length_map]; (clear hn hrl hm1 hm2 hm3 hb hmn s0 hl hw hpl hpl2 hsum hsnn q; lia)) ?_)
            rw [m1]
            exact ws_nil ⟨rfl, rfl, rfl, rfl, rfl, rfl, trivial⟩
          · refine ws_cons (w1_aug (x := "place") rfl vl iop_add ?_ rfl kle)
            refine ws_nil ⟨_, pl + z.toNat, hss', by (clear hn hsl hm1 hm2 hm3 hb hmn s0 hl hpl hpl2 hlen hsnn; lia), ?_, ?_, ?_, rfl, rfl, rfl, rfl, trivial⟩
            · split
              · rw [List.length_append]; show pg.length + 1 + _ ≤ _; (clear hn hsl hrl hm1 hm2 hm3 hb hmn s0 hl hw hpl hpl2 hsum hz hsnn; lia)
              · simp only [List.length_append, List.length_cons, List.length_nil]; (clear hn hsl hrl hm1 hm2 hm3 hb hmn s0 hl hw hpl hpl2 hsum hz hsnn; lia)
            · rw [← e4, sizesPage]
              rcases hz with rfl | rfl <;> rfl
            · show some (Sl.val (D.int (pl + z))) = some (Sl.val (D.int ((pl + z.toNat : Nat) : Int)))
              rw [show (((pl + z.toNat : Nat)) : Int) = pl + z by (clear hn hsl hrl hm1 hm2 hm3 hb hmn s0 hl hw hpl hpl2 hsum hlen hsnn; lia)]
        · rintro ρ2 ⟨pg, pl, hss, hsum, hlen, e4, hS2⟩
          simp only [List.length_nil] at hlen
          refine ws_sub hS2 (ws_nil ⟨pg, fun w h => hm w (.tail _ h), by (clear hn hsl hrl hm1 hm2 hm3 hb hmn s0 hw hpl hpl2 hsum; omega), ?_, rfl, rfl, rfl, rfl, trivial⟩)
          rw [← e2, pageFrom, hq, ← e4]; rfl
      · rintro ρ' ⟨pg, hm, hl, e2, hS⟩
        rw [← show pg = sumPage rows cell alone from e2]
        exact ws_sub hS (ws_freeze (x := "page") rfl (ws_cons (w1_ret vl rfl)))
end Mine
/-! N4 -/
namespace Mine
open PySem PySem.W PySem.Spec PySem.Calls PyProof.Rows PySem.SeqAt

noncomputable def eolN : Nat → Str
  | 0 => "\n"
  | 1 => "\r"
  | _ => "\r\n"
noncomputable def moreOf (d : Int) : Int := d + (if 1 < d then 1 else d)
noncomputable def markL : List (Str × List Int) := [("*", [16]), ("+", [14]), ("-", [15]), (";", [13]), ("\"", []), ("", [])]
structure TS where
  mail : Str
  due : Str
  left : Str
  nums : List Int
  shift : Int
noncomputable def lineOf (d : Int) (w : Str) : Str := Txt.mul "." d ++ w
noncomputable def tsStep (s : TS) (e : Ent) : TS where
  mail := s.mail ++ (lineOf e.1 e.2.1 ++ eolN (s.shift.fmod 3).toNat)
  shift := s.shift + 1
  due := s.due ++ (lineOf (moreOf e.1) e.2.1 ++ "\r\n")
  left := if e.2.2 == 0 then s.left ++ (lineOf (moreOf e.1) e.2.1 ++ "\r\n") else if e.2.2 == 1 then s.left ++ Txt.slice e.2.1 none (some (-1)) else if e.2.2 == 3 then s.left ++ "\r\n" else s.left
  nums := if e.2.2 == 0 then s.nums ++ (List.replicate ((moreOf e.1).fdiv 3).toNat 52 ++ List.replicate ((moreOf e.1).fmod 3).toNat 23) ++ (markL.lookup (Txt.slice e.2.1 none (some 1))).getD [] else s.nums
noncomputable def tsStart (shift : Int) : TS := ⟨"", "", "", [], shift⟩
noncomputable def textsOf (page : List Ent) (shift : Int) : TS := page.foldl tsStep (tsStart shift)
noncomputable def EntOk (e : Ent) : Prop := 0 ≤ e.1 ∧ e.1 ≤ 4 ∧ e.2.1.length ≤ 10 ∧ (e.2.2 = 0 → ∃ l, markL.lookup (Txt.slice e.2.1 none (some 1)) = some l)

theorem mulok_dot {n : Int} (h0 : 0 ≤ n) (h1 : n ≤ 5) : MulOk "." n := by
  have : n = 0 ∨ n = 1 ∨ n = 2 ∨ n = 3 ∨ n = 4 ∨ n = 5 := by lia
  rcases this with rfl | rfl | rfl | rfl | rfl | rfl <;> refine ⟨by decide, fun h zz => ?_, fun h zz => ?_⟩ <;> first | decide | exact absurd (by decide) h
theorem mul_dot_len {n : Int} (h0 : 0 ≤ n) (h1 : n ≤ 5) : (Txt.mul "." n).length = n.toNat := by
  have : n = 0 ∨ n = 1 ∨ n = 2 ∨ n = 3 ∨ n = 4 ∨ n = 5 := by lia
  rcases this with rfl | rfl | rfl | rfl | rfl | rfl <;> rfl
theorem str_len_app (a b : Str) : (a ++ b).length = a.length + b.length := by
  show (a.cps ++ b.cps).size = _
  rw [Array.size_append]; rfl
theorem eol_len (k : Nat) : (eolN k).length ≤ 2 := by
  match k with
  | 0 => decide
  | 1 => decide
  | n + 2 => exact (by decide : ("\r\n" : Str).length ≤ 2)

theorem bt_min : bootBuiltins "min" = some (.builtin "min") := by with_unfolding_all rfl
theorem Pr.min {C : Cx} (pr : Pr C) : C.mg (Str.ofString "min") = none := pr.no _ (by rw [show bootBuiltins (Str.ofString "min") = some (.builtin "min") from bt_min]; exact nofun) (by decide)
noncomputable abbrev tsσ (s : TS) : Store := [("mail", .val (.str s.mail)), ("due", .val (.str s.due)), ("left", .val (.str s.left)), ("numbers", .own (lI s.nums)), ("shift", .val (.int s.shift))]
structure TsOk (s : TS) (n : Nat) : Prop where
  mail : s.mail.length ≤ 20 * n
  due : s.due.length ≤ 20 * n
  left : s.left.length ≤ 20 * n
  nums : s.nums.length ≤ 20 * n

theorem lookup_map_snd {α β : Type} (g : α → β) (x : Str) : ∀ l : List (Str × α), (l.map fun p => (p.1, g p.2)).lookup x = (l.lookup x).map g
  | [] => rfl
  | (k, v) :: r => by
    rw [List.map_cons, List.lookup_cons, List.lookup_cons, lookup_map_snd g x r]
    cases x == k <;> rfl
theorem ws_last {C : Cx} {F : Fx} {ρ : Store} {K : Fl → Store → Prop} {st : Stmt} (h : W1 C F ρ st K) : Ws C F ρ [st] K := ws_cons (w1_mono h fun fl ρ' q => by cases fl <;> first | exact q | exact ws_nil q)
/-- what holds between two rows of a page -/
noncomputable def TxI (page : List Ent) (shift : Int) (es : List Ent) (ρ' : Store) : Prop := ∃ (t : TS) (n : Nat), (∀ e ∈ es, EntOk e) ∧ n + es.length = page.length ∧ TsOk t n ∧ es.foldl tsStep t = textsOf page shift ∧ Sub (tsσ t) ρ'
noncomputable abbrev P_texts : {d : DefRec // defOf pw "_law_texts" = some (d, [])} := ⟨_, rfl⟩
noncomputable abbrev R_texts : DefRec := P_texts.1
set_option maxHeartbeats 1000000 in
theorem t_texts {C : Cx} (pr : Pr C) (h0 : C.hd = none) (page : List Ent) (shift : Int) (hn : page.length ≤ 1000) (hp : ∀ e ∈ page, EntOk e) : Does C "_law_texts" 3 [.lst (page.map entD), .int shift]
    (.tup [.str ((textsOf page shift).mail ++ "."), .str ((textsOf page shift).due ++ ".."), .str ((textsOf page shift).left ++ ".."), .lst (lI ((textsOf page shift).nums ++ [23, 23]))]) := by
  refine does (d := R_texts) (names := ["page", "shift"]) pr P_texts.2 rfl (by decide) rfl (fun pm cd doc vs hl => ?_) (by decide) (fun L a cd A s hid => ?_)
  · obtain ⟨v, w, rfl⟩ := len_2 hl; rfl
  · have hsl : (1000000 : Nat) ≤ sizeLine := by decide
    refine ws_cons (w1_assign_sssl rfl rfl rfl rfl ?_ (by decide))
    refine ws_forM (xs := page) entD (TxI page shift) (evit_list (vl (d := .lst (page.map entD))))
      ⟨tsStart shift, 0, hp, by (clear hn hsl; lia), ⟨Nat.le_refl _, Nat.le_refl _, Nat.le_refl _, Nat.le_refl _⟩, rfl, rfl, rfl, rfl, rfl, rfl, trivial⟩ ?_ ?_ kle
    · rintro ps se e es ρ' ⟨t, n, he, hn', ht, e2, hS⟩
      obtain ⟨h0, h1, h2, h3⟩ := he e (.head _)
      simp only [List.length_cons] at hn'
      refine ⟨_, as_sub hS (as_tuple (.cons (as_name rfl) (.cons (as_name rfl) (.cons (as_name rfl) .nil rfl) rfl) rfl)), ?_⟩
      have hm := fmod_lt (a := t.shift) (b := 3) (by decide)
      have l0 : (lineOf e.1 e.2.1).length ≤ 14 := by unfold lineOf; rw [str_len_app, mul_dot_len h0 (by (clear hn hsl hn' h2 hm; lia))]; (clear hn hsl hn' hm; lia)
      have hmore : 0 ≤ moreOf e.1 ∧ moreOf e.1 ≤ 5 := by unfold moreOf; split <;> (clear hn hsl hn' h2 hm l0; lia)
      have l1 : (lineOf (moreOf e.1) e.2.1).length ≤ 15 := by unfold lineOf; rw [str_len_app, mul_dot_len hmore.1 hmore.2]; (clear hn hsl hn' h0 h1 hm l0; lia)
      have l2 := eol_len (t.shift.fmod 3).toNat
      have a1 := ht.mail
      have a2 := ht.due
      have a3 := ht.left
      have a4 := ht.nums
      refine ws_cons (w1_aug (x := "mail") (a := .str t.mail) (d := .str (tsStep t e).mail) rfl (ev_bin (ev_bin (ev_bin ev_str vl (bin_smul (mulok_dot h0 (by (clear hn hsl hn' h2 hm l0 hmore l1 l2 a1 a2 a3 a4; lia)))) kle) vl (bin_sadd ?_) kle) (ev_sub (d := .str (eolN (t.shift.fmod 3).toNat)) (ev_list (evs_cons ev_str (evs_cons ev_str (evs_cons ev_str evs_nil))) kle) (ev_bin vl ev_int (bin_mod (by decide)) kle) (itm_list hm.1 (by (clear hn hsl hn' h0 h1 h2 l0 hmore l1 l2 a1 a2 a3 a4; omega)) ?_) trivial kle) (bin_sadd ?_) kle) (iop_sadd ?_) ?_ rfl kle)
      · have := mul_dot_len h0 (by (clear hn hsl hn' h2 hm l0 hmore l1 l2 a1 a2 a3 a4; lia))
        rw [this]; (clear hn hn' hm l0 hmore l1 l2 a1 a2 a3 a4 this; lia)
      · have : (t.shift.fmod 3).toNat < 3 := by (clear hn hsl hn' h0 h1 h2 l0 hmore l1 l2 a1 a2 a3 a4; omega)
        match (t.shift.fmod 3).toNat, this with
        | 0, _ => rfl
        | 1, _ => rfl
        | 2, _ => rfl
      · show (lineOf e.1 e.2.1).length + _ ≤ _; (clear hn hn' h0 h1 h2 hm hmore l1 a1 a2 a3 a4; omega)
      · show _ + (lineOf e.1 e.2.1 ++ eolN (t.shift.fmod 3).toNat).length ≤ _; rw [str_len_app]; (clear h0 h1 h2 hm hmore l1 a2 a3 a4; lia)
      have b1 : (tsStep t e).mail.length ≤ 20 * (n + 1) := by
        show (t.mail ++ (lineOf e.1 e.2.1 ++ eolN (t.shift.fmod 3).toNat)).length ≤ _
        rw [str_len_app, str_len_app]; (clear hn hsl hn' h0 h1 h2 hm hmore l1 a2 a3 a4; lia)
      refine ws_cons (w1_aug (x := "shift") (a := .int t.shift) rfl ev_int iop_add ?_ rfl kle)
      refine ws_cons (w1_assign (d := .int (moreOf e.1)) (ev_bin vl (ev_call_bi pr.min bt_min (evs_cons vl (evs_cons ev_int evs_nil)) call_min kle rfl) bin_add kle) ?_ rfl)
      refine ws_cons (w1_aug (x := "due") (a := .str t.due) (d := .str (tsStep t e).due) rfl (ev_bin (ev_bin (ev_bin ev_str vl (bin_smul (mulok_dot hmore.1 hmore.2)) kle) vl (bin_sadd ?_) kle) ev_str (bin_sadd ?_) kle) (iop_sadd ?_) ?_ rfl kle)
      · rw [mul_dot_len hmore.1 hmore.2]; (clear hn hn' h0 h1 hm l0 l1 l2 a1 a2 a3 a4 b1; lia)
      · show (lineOf (moreOf e.1) e.2.1).length + 2 ≤ _; (clear hn hn' h0 h1 h2 hm l0 hmore l2 a1 a2 a3 a4 b1; lia)
      · show _ + (lineOf (moreOf e.1) e.2.1 ++ "\r\n").length ≤ _; rw [str_len_app]; show _ + (_ + 2) ≤ _; (clear h0 h1 h2 hm l0 hmore l2 a1 a3 a4 b1; lia)
      have b2 : (tsStep t e).due.length ≤ 20 * (n + 1) := by
        show (t.due ++ (lineOf (moreOf e.1) e.2.1 ++ "\r\n")).length ≤ _
        rw [str_len_app, str_len_app]; show _ + (_ + 2) ≤ _; (clear hn hsl hn' h0 h1 h2 hm l0 hmore l2 a1 a3 a4 b1; lia)
      refine ws_mono (ws_sub (ρ' := [("due", .val (.str (tsStep t e).due)), ("more", .val (.int (moreOf e.1))), ("shift", .val (.int (t.shift + 1))), ("mail", .val (.str (tsStep t e).mail)), ("state", .val (.int e.2.2)), ("words", .val (.str e.2.1)), ("left", .val (.str t.left)), ("numbers", .own (lI t.nums))]) ⟨rfl, rfl, rfl, rfl, rfl, rfl, rfl, rfl, trivial⟩ (K := fun fl ρ₃ => fl = .next ∧ Sub (tsσ (tsStep t e)) ρ₃) ?_) (fun fl ρ₃ h => ?_)
      rotate_left 1
      · obtain ⟨rfl, hS3⟩ := h
        have c3 : (tsStep t e).left.length ≤ 20 * (n + 1) := by
          show (if e.2.2 == 0 then _ else _ : Str).length ≤ _
          split
          · rw [str_len_app, str_len_app]; show _ + (_ + 2) ≤ _; (clear hn hsl hn' h0 h1 h2 hm l0 hmore l2 a1 a2 a4 b1 b2; lia)
          · split
            · rw [str_len_app]; have := Txt.slice_le e.2.1 none (some (-1)); (clear hn hsl hn' h0 h1 hm l0 hmore l1 l2 a1 a2 a4 b1 b2; lia)
            · split
              · rw [str_len_app]; show _ + 2 ≤ _; (clear hn hsl hn' h0 h1 h2 hm l0 hmore l1 l2 a1 a2 a4 b1 b2; lia)
              · (clear hn hsl hn' h0 h1 h2 hm l0 hmore l1 l2 a1 a2 a4 b1 b2; lia)
        have c4 : (tsStep t e).nums.length ≤ 20 * (n + 1) := by
          show (if e.2.2 == 0 then _ else _ : List Int).length ≤ _
          have k1 : ((moreOf e.1).fdiv 3).toNat ≤ 4 := by
            have := Int.fdiv_eq_ediv_of_nonneg (moreOf e.1) (by decide : (0 : Int) ≤ 3); (clear hn hsl hn' h0 h1 h2 hm l0 l1 l2 a1 a2 a3 a4 b1 b2 c3; lia)
          have k2 := fmod_lt (a := moreOf e.1) (b := 3) (by decide)
          have k3 : ((markL.lookup (Txt.slice e.2.1 none (some 1))).getD []).length ≤ 1 := by
            cases q : markL.lookup (Txt.slice e.2.1 none (some 1)) with
            | none => exact Nat.zero_le _
            | some l =>
              have := lookup_mem q
              simp only [markL, List.mem_cons, List.mem_nil_iff, Prod.mk.injEq, or_false] at this
              rcases this with ⟨_, rfl⟩ | ⟨_, rfl⟩ | ⟨_, rfl⟩ | ⟨_, rfl⟩ | ⟨_, rfl⟩ | ⟨_, rfl⟩ <;> decide
          split
          · rw [List.length_append, List.length_append, List.length_append, List.length_replicate, List.length_replicate]; (clear hn hsl hn' h0 h1 h2 hm l0 hmore l1 l2 a1 a2 a3 b1 b2 c3; omega)
          · (clear hn hsl hn' h0 h1 h2 hm l0 hmore l1 l2 a1 a2 a3 b1 b2 c3 k1 k2 k3; lia)
        exact ⟨tsStep t e, n + 1, fun x h => he x (.tail _ h), by (clear hn hsl h0 h1 h2 hm l0 hmore l1 l2 a1 a2 a3 a4 b1 b2 c3 c4; lia), ⟨b1, b2, c3, c4⟩, e2, hS3⟩
      have e14 : ∀ {x : Int}, (moreOf e.1).fdiv 3 = x → 0 ≤ x ∧ x ≤ 4 := by
        intro x hx; have := Int.fdiv_eq_ediv_of_nonneg (moreOf e.1) (by decide : (0 : Int) ≤ 3); (clear hn hsl hn' h0 h1 h2 hm l0 l1 l2 a1 a2 a3 a4 b1 b2; lia)
      have f14 := e14 rfl
      have k2 := fmod_lt (a := moreOf e.1) (b := 3) (by decide)
      refine ws_last (w1_if (b := e.2.2 == 0) (ts_cmp vl ev_int cmp_eq kle) (fun q => ?_) (fun q => ?_))
      · obtain ⟨l, hl⟩ := h3 (by simpa using q)
        refine ws_cons (w1_aug (x := "left") (a := .str t.left) (d := .str (tsStep t e).left) rfl (ev_bin (ev_bin (ev_bin ev_str vl (bin_smul (mulok_dot hmore.1 hmore.2)) kle) vl (bin_sadd ?_) kle) ev_str (bin_sadd ?_) kle) ?_ ?_ rfl kle)
        · rw [mul_dot_len hmore.1 hmore.2]; (clear hn hn' h0 h1 hm l0 l1 l2 a1 a2 a3 a4 b1 b2 f14 k2 q; lia)
        · show (lineOf (moreOf e.1) e.2.1).length + 2 ≤ _; (clear hn hn' h0 h1 h2 hm l0 hmore l2 a1 a2 a3 a4 b1 b2 f14 k2 q; lia)
        · have hq : (tsStep t e).left = t.left ++ (lineOf (moreOf e.1) e.2.1 ++ "\r\n") := if_pos q
          rw [hq]
          refine iop_sadd ?_
          show _ + (lineOf (moreOf e.1) e.2.1 ++ "\r\n").length ≤ _; rw [str_len_app]; show _ + (_ + 2) ≤ _; (clear h0 h1 h2 hm l0 hmore l2 a1 a2 a4 b1 b2 f14 k2 q; lia)
        refine ws_cons (w1_extend (x := "numbers") (ds := lI t.nums) (es := lI (List.replicate ((moreOf e.1).fdiv 3).toNat 52 ++ List.replicate ((moreOf e.1).fmod 3).toNat 23)) rfl rfl ?_ ?_ ?_)
        · rw [lI_append, ← lI_rep, ← lI_rep]
          refine ev_bin (ev_bin (ev_list (evs_cons ev_int evs_nil) kle) (ev_bin vl ev_int (bin_floordiv (by decide) ?_) kle) (bin_lmul nofun (by (clear hn hsl hn' h0 h1 h2 hm l0 hmore l1 l2 a1 a2 a3 a4 b1 b2 k2 q; omega)) (by (clear hn hsl hn' h0 h1 h2 hm l0 hmore l1 l2 a1 a2 a3 a4 b1 b2 k2 q; omega)) ?_) kle) (ev_bin (ev_list (evs_cons ev_int evs_nil) kle) (ev_bin vl ev_int (bin_mod (by decide)) kle) (bin_lmul nofun (by (clear hn hsl hn' h0 h1 h2 hm l0 hmore l1 l2 a1 a2 a3 a4 b1 b2 f14 q; omega)) (by (clear hn hsl hn' h0 h1 h2 hm l0 hmore l1 l2 a1 a2 a3 a4 b1 b2 f14 q; omega)) ?_) kle) (bin_ladd ?_) kle
          · rw [Builtin.divisionGoesByPylong]; exact Bool.and_eq_false_iff.mpr (.inl rfl)
          · show 1 * _ ≤ _; (clear hn hsl hn' h0 h1 h2 hm l0 hmore l1 l2 a1 a2 a3 a4 b1 b2 k2 q; omega)
          · show 1 * _ ≤ _; (clear hn hsl hn' h0 h1 h2 hm l0 hmore l1 l2 a1 a2 a3 a4 b1 b2 f14 q; omega)
          · rw [lI_rep, lI_rep, ints_len, ints_len, List.length_replicate, List.length_replicate]; (clear hn hn' h0 h1 h2 hm l0 hmore l1 l2 a1 a2 a3 a4 b1 b2 q; omega)
        · rw [ints_len, ints_len, List.length_append, List.length_replicate, List.length_replicate]; (clear h0 h1 h2 hm l0 hmore l1 l2 a1 a2 a3 b1 b2 q; omega)
        refine ws_cons (w1_extend (x := "numbers") (ds := lI t.nums ++ lI (List.replicate ((moreOf e.1).fdiv 3).toNat 52 ++ List.replicate ((moreOf e.1).fmod 3).toNat 23)) (es := lI l) rfl rfl ?_ ?_ ?_)
        · refine ev_dispsub (r := markL.map fun p => (p.1, .lst (lI p.2))) (.cons (ev_list (evs_cons ev_int evs_nil) kle) (.cons (ev_list (evs_cons ev_int evs_nil) kle) (.cons (ev_list (evs_cons ev_int evs_nil) kle) (.cons (ev_list (evs_cons ev_int evs_nil) kle) (.cons (ev_list evs_nil kle) (.cons (ev_list evs_nil kle) .nil))))))
            (ev_slice (vl (d := .str e.2.1)) .none (.some ev_int) .none (slc_str (by (clear hn hn' h0 h1 hm l0 hmore l1 l2 a1 a2 a3 a4 b1 b2 f14 k2 q; lia))) trivial kle) ?_ (by decide) nofun kle
          exact (lookup_map_snd (fun l => D.lst (lI l)) _ markL).trans (by rw [hl]; rfl)
        · rw [List.length_append, ints_len, ints_len, ints_len, List.length_append, List.length_replicate, List.length_replicate]
          have := lookup_mem hl
          simp only [markL, List.mem_cons, List.mem_nil_iff, Prod.mk.injEq, or_false] at this
          rcases this with ⟨_, rfl⟩ | ⟨_, rfl⟩ | ⟨_, rfl⟩ | ⟨_, rfl⟩ | ⟨_, rfl⟩ | ⟨_, rfl⟩ <;> (simp only [List.length_cons, List.length_nil]; (clear h0 h1 h2 hm l0 hmore l1 l2 a1 a2 a3 b1 b2 q; omega))
        have hnq : (tsStep t e).nums = t.nums ++ (List.replicate ((moreOf e.1).fdiv 3).toNat 52 ++ List.replicate ((moreOf e.1).fmod 3).toNat 23) ++ l := by
          have : (tsStep t e).nums = t.nums ++ (List.replicate ((moreOf e.1).fdiv 3).toNat 52 ++ List.replicate ((moreOf e.1).fmod 3).toNat 23) ++ (markL.lookup (Txt.slice e.2.1 none (some 1))).getD [] := if_pos q
          rw [this, hl]; rfl
        exact ws_nil ⟨rfl, rfl, rfl, rfl, by rw [hnq, lI_append, lI_append]; rfl, rfl, trivial⟩
      · have hnq : (tsStep t e).nums = t.nums := if_neg (by rw [q]; exact nofun)
        have hl0 : (tsStep t e).left = if e.2.2 == 1 then t.left ++ Txt.slice e.2.1 none (some (-1)) else if e.2.2 == 3 then t.left ++ "\r\n" else t.left := if_neg (by rw [q]; exact nofun)
        refine ws_last (w1_if (b := e.2.2 == 1) (ts_cmp vl ev_int cmp_eq kle) (fun q1 => ?_) (fun q1 => ?_))
        · rw [if_pos q1] at hl0
          refine ws_cons (w1_aug (x := "left") (a := .str t.left) (d := .str (tsStep t e).left) rfl (ev_slice (vl (d := .str e.2.1)) .none (.some (ev_un ev_int un_neg kle)) .none (slc_str (by (clear hn hn' h0 h1 hm l0 hmore l1 l2 a1 a2 a3 a4 b1 b2 f14 k2 q q1; lia))) trivial kle) ?_ ?_ rfl kle)
          · rw [hl0]
            exact iop_sadd (by have := Txt.slice_le e.2.1 none (some (-1)); (clear h0 h1 hm l0 hmore l1 l2 a1 a2 a4 b1 b2 f14 k2 q q1; lia))
          · exact ws_nil ⟨rfl, rfl, rfl, rfl, by rw [hnq]; rfl, rfl, trivial⟩
        · rw [if_neg (by rw [q1]; exact nofun)] at hl0
          refine ws_last (w1_if (b := e.2.2 == 3) (ts_cmp vl ev_int cmp_eq kle) (fun q2 => ?_) (fun q2 => ?_))
          · rw [if_pos q2] at hl0
            refine ws_cons (w1_aug (x := "left") (a := .str t.left) (d := .str (tsStep t e).left) rfl ev_str ?_ ?_ rfl kle)
            · rw [hl0]
              exact iop_sadd (by show _ + 2 ≤ _; (clear h0 h1 h2 hm l0 hmore l1 l2 a1 a2 a4 b1 b2 f14 k2 q q1 q2; lia))
            · exact ws_nil ⟨rfl, rfl, rfl, rfl, by rw [hnq]; rfl, rfl, trivial⟩
          · rw [if_neg (by rw [q2]; exact nofun)] at hl0
            exact ws_nil ⟨rfl, rfl, rfl, by rw [hl0]; rfl, by rw [hnq]; rfl, rfl, trivial⟩
    · rintro ρ' ⟨t, n, he, hn', ht, e2, hS⟩
      rw [← show t = textsOf page shift from e2]
      have a1 := ht.mail
      have a2 := ht.due
      have a3 := ht.left
      have a4 := ht.nums
      simp only [List.length_nil] at hn'
      refine ws_sub hS (ws_freeze (x := "numbers") rfl (ws_cons (w1_ret (ev_tuple (evs_cons (ev_bin vl ev_str (bin_sadd ?_) kle) (evs_cons (ev_bin vl ev_str (bin_sadd ?_) kle) (evs_cons (ev_bin vl ev_str (bin_sadd ?_) kle) (evs_cons (Ev.cast ?_ (ev_bin (vl (d := .lst (lI t.nums))) (ev_list (evs_cons ev_int (evs_cons ev_int evs_nil)) kle) (bin_ladd ?_) kle)) evs_nil)))) kle) rfl)))
      · show _ + 1 ≤ _; (clear a2 a3 a4; lia)
      · show _ + 2 ≤ _; (clear a1 a3 a4; lia)
      · show _ + 2 ≤ _; (clear a1 a2 a4; lia)
      · rw [lI_append]; rfl
      · rw [ints_len]; show _ + 2 ≤ _; (clear a1 a2 a3; lia)
end Mine
/-! N5 -/
namespace Mine
open PySem PySem.W PySem.Spec PySem.Calls PyProof.Rows PySem.SeqAt

noncomputable def tknA : List (Str × Int) := [("!", 54), ("!=", 28), ("%", 24), ("%=", 40), ("&", 19), ("&=", 41), ("(", 7), (")", 8)]
noncomputable def tknB : List (Str × Int) := [("*", 16), ("**", 35), ("**=", 46), ("*=", 38), ("+", 14), ("+=", 36), (",", 12), ("-", 15)]
noncomputable def tknC : List (Str × Int) := [("-=", 37), ("->", 51), (".", 23), ("...", 52), ("/", 17), ("//", 47), ("//=", 48), ("/=", 39)]
noncomputable def tknD : List (Str × Int) := [(":", 11), (":=", 53), (";", 13), ("<", 20), ("<<", 33), ("<<=", 44), ("<=", 29), ("=", 22)]
noncomputable def tknE : List (Str × Int) := [("==", 27), (">", 21), (">=", 30), (">>", 34), (">>=", 45), ("@", 49), ("@=", 50), ("[", 9)]
noncomputable def tknF : List (Str × Int) := [("]", 10), ("^", 32), ("^=", 43), ("{", 25), ("|", 18), ("|=", 42), ("}", 26), ("~", 31)]
noncomputable def tokens : List (Str × Int) := tknA ++ (tknB ++ (tknC ++ (tknD ++ (tknE ++ (tknF)))))
noncomputable def tokF (x : Str) : Option Int := tokens.lookup x
noncomputable def tokAt (text : Str) (p n : Nat) : Option Int := tokF (Txt.slice text (some (p : Int)) (some ((p : Int) + (n : Int))))
noncomputable def sizeAt (text : Str) (p : Nat) : Nat := if (tokAt text p 3).isSome then 3 else if (tokAt text p 2).isSome then 2 else 1
noncomputable def readFrom (text : Str) : Nat → Nat → List Int → List Int
  | 0, _, told => told
  | f + 1, p, told => if p < text.length then readFrom text f (p + sizeAt text p) (told ++ (tokAt text p (sizeAt text p)).toList) else told
noncomputable def readOf (text : Str) : List Int := readFrom text text.length 0 []
theorem sizeAt_le (text : Str) (p : Nat) : 1 ≤ sizeAt text p ∧ sizeAt text p ≤ 3 := by unfold sizeAt; split; decide; split <;> decide
theorem readFrom_end (text : Str) (f p : Nat) (told : List Int) (h : text.length ≤ p) : readFrom text f p told = told := by
  cases f with
  | zero => rfl
  | succ f => rw [readFrom, if_neg (by lia)]

noncomputable abbrev P_read : {d : DefRec // defOf pw "_law_read" = some (d, [])} := ⟨_, rfl⟩
noncomputable abbrev R_read : DefRec := P_read.1
set_option maxHeartbeats 1000000 in
theorem t_read {C : Cx} (pr : Pr C) (tk : Tk C "EXACT_TOKEN_TYPES" tokF) (text : Str) (hz : text.length ≤ 100000) : Does C "_law_read" 3 [.str text] (.lst (lI (readOf text))) := by
  refine does (d := R_read) (names := ["text"]) pr P_read.2 rfl (by decide) rfl (fun pm cd doc vs hl => ?_) (by decide) (fun L a cd A s hid => ?_)
  · obtain ⟨v, rfl⟩ := len_1 hl; rfl
  · have hsl : (1000000 : Nat) ≤ sizeLine := by decide
    refine ws_cons (w1_assign_new (evnew_list evs_nil) ?_ rfl)
    refine ws_cons (w1_assign (d := .int 0) ev_int ?_ rfl)
    refine ws_while (α := Nat × List Int) (fun x => [("place", .val (.int (x.1 : Int))), ("told", .own (lI x.2)), ("text", .val (.str text))]) (fun x => 200000 - x.1) (fun x => x.1 ≤ 100002 ∧ x.2.length ≤ x.1 ∧ ∃ f, text.length ≤ x.1 + f ∧ readFrom text f x.1 x.2 = readOf text) (0, []) ⟨rfl, rfl, rfl, trivial⟩ ⟨by (clear hz hsl; lia), Nat.le_refl _, text.length, by (clear hz hsl; lia), rfl⟩ ?_
    rintro ⟨p, told⟩ ⟨hp, ht, f, hf, hr⟩
    dsimp only at hp ht hf hr ⊢
    refine ⟨decide ((p : Int) < text.length), ts_cmp vl (ev_call_bi pr.len bt_len (evs_cons vl evs_nil) (call_len_str (x := text) (by (clear hsl hp ht hf; lia))) kle rfl) cmp_lt kle, fun hb => ?_, fun hb => ?_⟩
    · have hb : p < text.length := by have := of_decide_eq_true hb; (clear hz hsl hp ht hf hb; lia)
      have part : ∀ {ps se ρ} (n : Nat), Sub [("size", .val (.int (n : Int))), ("place", .val (.int (p : Int))), ("text", .val (.str text))] ρ → ∀ {q1 q2 q3 q4 q5 q6 q7 : Pos}, Ev C ((Fx.fn (envOf "_law_read" R_read.scope L a cd) A 2 s hid).on ps se) ρ (.Subscript (.Name "text" q1) (.Slice (some (.Name "place" q2)) (some (.BinOp (.Name "place" q3) .Add (.Name "size" q4) q5)) none q6) q7) (.str (Txt.slice text (some (p : Int)) (some ((p : Int) + (n : Int))))) := by
        intro ps se ρ n hS q1 q2 q3 q4 q5 q6 q7
        exact .mk fun W s' Q E f' q => (ev_slice (vl (d := .str text)) (.some vl) (.some (ev_bin vl vl bin_add kle)) .none (slc_str (by (clear hp ht hf hb; lia))) trivial kle).go W s' Q E (f'.sub hS) q
      refine ws_cons (w1_assign (d := .int ((3 : Nat) : Int)) ev_int ?_ rfl)
      refine ws_while (α := Nat) (fun n => [("size", .val (.int (n : Int))), ("place", .val (.int (p : Int))), ("told", .own (lI told)), ("text", .val (.str text))]) (fun n => n) (fun n => 1 ≤ n ∧ n ≤ 3 ∧ (n < 3 → tokAt text p 3 = none) ∧ (n < 2 → tokAt text p 2 = none)) 3 ⟨rfl, rfl, rfl, rfl, trivial⟩ ⟨by (clear hz hsl hp ht hf hb; lia), by (clear hz hsl hp ht hf hb; lia), by (clear hz hsl hp ht hf hb; lia), by (clear hz hsl hp ht hf hb; lia)⟩ ?_
      rintro n ⟨hn1, hn2, hn3, hn4⟩
      refine ⟨decide ((n : Int) > 1) && !(tokAt text p n).isSome, ts_bool (.and2 (ts_cmp vl ev_int cmp_gt kle) (ts_notin_tk tk (part (ps := []) (se := []) n ⟨rfl, rfl, rfl, trivial⟩) rfl)), fun hb1 => ?_, fun hb1 => ?_⟩
      · rw [Bool.and_eq_true] at hb1
        have g1 := of_decide_eq_true hb1.1
        have g2 : tokAt text p n = none := by cases q : tokAt text p n with
          | none => rfl
          | some i => have := hb1.2; rw [q] at this; cases this
        refine ws_cons (w1_aug (x := "size") (d := .int ((n : Int) - 1)) rfl ev_int iop_sub ?_ rfl kle)
        refine ws_nil ⟨n - 1, by (clear hz hsl hp ht hf hb hb1; lia), ⟨by (clear hz hsl hp ht hf hb hb1; lia), by (clear hz hsl hp ht hf hb hb1; lia), fun q => ?_, fun q => ?_⟩, ?_, rfl, rfl, rfl, trivial⟩
        · by_cases h3 : n = 3
          · rw [h3] at g2; exact g2
          · exact hn3 (by (clear hz hsl hp ht hf hb hb1 q; lia))
        · have : n = 2 := by (clear hz hsl hp ht hf hb hb1; grind)
          rw [this] at g2; exact g2
        · show some (Sl.val (D.int ((n : Int) - 1))) = some (Sl.val (D.int ((n - 1 : Nat) : Int)))
          rw [show ((n - 1 : Nat) : Int) = (n : Int) - 1 by (clear hz hsl hp ht hf hb hb1; lia)]
      · have hsz : n = sizeAt text p := by
          unfold sizeAt
          rw [Bool.and_eq_false_iff] at hb1
          have : n = 1 ∨ n = 2 ∨ n = 3 := by (clear hz hsl hp ht hf hb hb1; lia)
          rcases this with rfl | rfl | rfl
          · rw [hn3 (by (clear hz hsl hp ht hf hb hn1 hn2 hb1; lia)), hn4 (by (clear hz hsl hp ht hf hb hn1 hn2 hb1; lia))]; rfl
          · rcases hb1 with q | q
            · exact absurd (of_decide_eq_false q) (by decide)
            · rw [hn3 (by (clear hz hsl hp ht hf hb hn1 hn2 q; lia))]
              cases q2 : tokAt text p 2 with
              | none => rw [q2] at q; cases q
              | some i => rfl
          · rcases hb1 with q | q
            · exact absurd (of_decide_eq_false q) (by decide)
            · cases q2 : tokAt text p 3 with
              | none => rw [q2] at q; cases q
              | some i => rfl
        have hl := sizeAt_le text p
        rw [← hsz] at hl
        refine ws_if (b := (tokAt text p n).isSome) (σ := [("size", .val (.int (n : Int))), ("place", .val (.int (p : Int))), ("told", .own (lI (told ++ (tokAt text p n).toList))), ("text", .val (.str text))]) (ts_in_tk tk (part (ps := []) (se := []) n ⟨rfl, rfl, rfl, trivial⟩) rfl) (fun q => ?_) (fun q => ?_) ?_
        · obtain ⟨i, hi⟩ := Option.isSome_iff_exists.mp q
          refine ws_cons (w1_append (x := "told") (ds := lI told) (d := .int i) rfl rfl (ev_sub_tk tk (part (ps := []) (se := []) n ⟨rfl, rfl, rfl, trivial⟩) hi rfl) (by rw [ints_len]; (clear hf hn1 hn2 hb1 hsz hl q; lia)) ?_)
          exact ws_nil ⟨rfl, rfl, by rw [hi, lI_append]; rfl, rfl, trivial⟩
        · have : tokAt text p n = none := by cases q2 : tokAt text p n with
            | none => rfl
            | some i => rw [q2] at q; cases q
          rw [this]
          exact ws_nil ⟨rfl, rfl, by rw [show told ++ (none : Option Int).toList = told from List.append_nil _]; rfl, rfl, trivial⟩
        · refine ws_cons (w1_aug (x := "place") (d := .int ((p : Int) + n)) rfl vl iop_add ?_ rfl kle)
          have hlen : (told ++ (tokAt text p n).toList).length ≤ p + n := by
            rw [List.length_append]
            have : (tokAt text p n).toList.length ≤ 1 := by cases tokAt text p n <;> simp
            (clear hz hsl hp hf hb hb1 hl; lia)
          cases f with
          | zero => (clear hz hsl hp ht hn1 hn2 hb1 hsz hl hlen; omega)
          | succ f =>
            rw [readFrom, if_pos hb] at hr
            exact ws_nil ⟨(p + n, told ++ (tokAt text p n).toList), by dsimp only; (clear hz hsl ht hb hb1 hl hlen hf; omega), ⟨by dsimp only; (clear hsl ht hb1 hl hlen hf; lia), hlen, f, by dsimp only; (clear hz hsl hp ht hb hb1 hl hlen; lia), by dsimp only; rw [hsz]; exact hr⟩, by show some (Sl.val (D.int ((p : Int) + n))) = some (Sl.val (D.int ((p + n : Nat) : Int))); rw [Int.natCast_add], rfl, rfl, trivial⟩
    · have hb : ¬ p < text.length := by have := of_decide_eq_false hb; (clear hz hsl hp ht hf hb; omega)
      rw [readFrom_end text f p told (by (clear hz hsl hp ht hf; lia))] at hr
      subst hr
      exact ws_freeze (x := "told") rfl (ws_cons (w1_ret vl rfl))
end Mine
/-! N6 -/
namespace Mine
open PySem PySem.W PySem.Spec PySem.Calls PyProof.Rows PySem.SeqAt
open Builtin.Int (intBits)

theorem loc2 {env : Env} {a b : Str} (h1 : env.kindOf a = some .local) (h2 : env.kindOf b = some .local) : ∀ n ∈ [a, b], env.kindOf n = some .local := by
  intro n h
  rcases List.mem_cons.mp h with rfl | h
  · exact h1
  · rcases List.mem_cons.mp h with rfl | h
    · exact h2
    · cases h
structure VS where
  whole : Int
  side : Int
  product : Int
  dots : Int
noncomputable def vsStep (high turn : Int) (s : VS) (n : Int) : VS :=
  if n == 16 then { s with product := s.product * (s.dots + high), dots := 0 }
  else if n < 16 then { s with whole := s.whole + s.side * s.product, product := 1, side := if n == 14 then 1 else turn }
  else { s with dots := s.dots + (if n == 52 then 3 else 1) }
noncomputable def vsStart : VS := ⟨0, 0, 1, 0⟩
noncomputable def vsOf (told : List Int) (high turn : Int) : VS := told.foldl (vsStep high turn) vsStart
noncomputable def valueOf (told : List Int) (high turn : Int) : Int := (vsOf told high turn).whole + (vsOf told high turn).side * (vsOf told high turn).product
structure VsOk (turn : Int) (s : VS) (n : Nat) : Prop where
  prod : intBits s.product ≤ 1 + 5000 * n
  dots : 0 ≤ s.dots ∧ s.dots ≤ 3 * n
  side : s.side = 0 ∨ s.side = 1 ∨ s.side = turn
noncomputable abbrev vsσ (high turn : Int) (s : VS) : Store := [("whole", .val (.int s.whole)), ("side", .val (.int s.side)), ("product", .val (.int s.product)), ("dots", .val (.int s.dots)), ("high", .val (.int high)), ("turn", .val (.int turn))]

/-- what holds between two numbers -/
noncomputable def VsI (told : List Int) (high turn : Int) (ns : List Int) (ρ' : Store) : Prop := ∃ (t : VS) (n : Nat), n + ns.length = told.length ∧ VsOk turn t n ∧ ns.foldl (vsStep high turn) t = vsOf told high turn ∧ Sub (vsσ high turn t) ρ'
noncomputable abbrev P_value : {d : DefRec // defOf pw "_law_value" = some (d, [])} := ⟨_, rfl⟩
noncomputable abbrev R_value : DefRec := P_value.1
set_option maxHeartbeats 1000000 in
theorem t_value {C : Cx} (pr : Pr C) (h0 : C.hd = none) (told : List Int) (high turn : Int) (hn : told.length ≤ 1000) (hh : intBits high ≤ 4990) (ht : turn = 1 ∨ turn = -1) : Does C "_law_value" 2 [.lst (lI told), .int high, .int turn] (.int (valueOf told high turn)) := by
  refine does (d := R_value) (names := ["told", "high", "turn"]) pr P_value.2 rfl (by decide) rfl (fun pm cd doc vs hl => ?_) (by decide) (fun L a cd A s hid => ?_)
  · obtain ⟨v, w, u, rfl⟩ := len_3 hl; rfl
  · have sideOk : ∀ (s : VS) (n : Nat), VsOk turn s n → IntMulOk s.side s.product := by
      intro s n h
      refine .of_left ?_
      rcases h.side with q | q | q <;> rw [q]
      · decide
      · decide
      · rcases ht with q | q <;> rw [q] <;> decide
    refine ws_cons (w1_assign_tuple (ev_tuple (evs_cons ev_int (evs_cons ev_int (evs_cons ev_int (evs_cons ev_int evs_nil)))) kle) (.cons (as_name rfl) (.cons (as_name rfl) (.cons (as_name rfl) (.cons (as_name rfl) .nil rfl) rfl) rfl) rfl) ?_)
    refine ws_forM (xs := told) D.int (VsI told high turn) (evit_list (vl (d := .lst (lI told))))
      ⟨vsStart, 0, by (clear hn hh ht; lia), ⟨by decide, by decide, .inl rfl⟩, rfl, rfl, rfl, rfl, rfl, rfl, rfl, trivial⟩ ?_ ?_ kle
    · rintro ps se m ns ρ' ⟨t, n, hl, hv, e2, hS⟩
      simp only [List.length_cons] at hl
      refine ⟨_, as_sub hS (as_name rfl), ?_⟩
      have b1 : intBits (t.dots + high) ≤ 4991 := by
        have : intBits t.dots ≤ 64 := intBits_le_iff.mpr (by have := hv.dots; (clear hh ht; lia))
        exact Nat.le_trans (bits_add this hh) (by decide)
      have fin : ∀ (t' : VS) (ρ₃ : Store), vsStep high turn t m = t' → VsOk turn t' (n + 1) → Sub (vsσ high turn t') ρ₃ → VsI told high turn ns ρ₃ := fun t' ρ₃ h1 h2 h3 => ⟨t', n + 1, by (clear hn hh ht b1; lia), h2, h1 ▸ e2, h3⟩
      refine ws_last (w1_if (b := m == 16) (ts_cmp vl ev_int cmp_eq kle) (fun q => ?_) (fun q => ?_))
      · refine ws_cons (w1_swap ["product", "dots"] (ev_tuple (evs_cons (ev_bin vl (ev_bin vl vl bin_add kle) (bin_mul (mulOk_of_bits hv.prod b1 (by (clear hh ht b1 q; lia)))) kle) (evs_cons ev_int evs_nil)) kle) (loc2 rfl rfl) rfl rfl ?_)
        refine ws_nil (fin { t with product := t.product * (t.dots + high), dots := 0 } _ (by unfold vsStep; rw [if_pos q]) ⟨Nat.le_trans (bits_mul hv.prod b1) (by (clear hn hh ht hl b1 q; lia)), ⟨by show (0 : Int) ≤ 0; decide, by show (0 : Int) ≤ _; (clear hn hh ht hl b1 q; lia)⟩, hv.side⟩ ⟨rfl, rfl, rfl, rfl, rfl, rfl, trivial⟩)
      · refine ws_last (w1_if (b := decide (m < 16)) (ts_cmp vl ev_int cmp_lt kle) (fun q1 => ?_) (fun q1 => ?_))
        · refine ws_cons (w1_swap ["whole", "product"] (ev_tuple (evs_cons (ev_bin vl (ev_bin vl vl (bin_mul (sideOk t n hv)) kle) bin_add kle) (evs_cons ev_int evs_nil)) kle) (loc2 rfl rfl) rfl rfl ?_)
          refine ws_cons (w1_assign (d := .int (if m == 14 then 1 else turn)) (ev_if (b := m == 14) (ts_cmp vl ev_int cmp_eq kle) (fun q2 => by rw [if_pos q2]; exact ev_int) (fun q2 => by rw [if_neg (by rw [q2]; exact nofun)]; exact vl)) ?_ rfl)
          refine ws_nil (fin { t with whole := t.whole + t.side * t.product, product := 1, side := if m == 14 then 1 else turn } _ (by unfold vsStep; rw [if_neg (by rw [q]; exact nofun), if_pos (of_decide_eq_true q1)]) ⟨Nat.le_trans (by decide : intBits 1 ≤ 1) (by (clear hn hh ht hl b1 q q1; lia)), ⟨hv.dots.1, by have := hv.dots.2; show t.dots ≤ _; (clear hn hh ht hl b1 q q1; lia)⟩, ?_⟩ ⟨rfl, rfl, rfl, rfl, rfl, rfl, trivial⟩)
          show (if m == 14 then 1 else turn) = 0 ∨ _
          split
          · exact .inr (.inl rfl)
          · exact .inr (.inr rfl)
        · refine ws_cons (w1_aug (x := "dots") (a := .int t.dots) (b := .int (if m == 52 then 3 else 1)) rfl (ev_if (b := m == 52) (ts_cmp vl ev_int cmp_eq kle) (fun q2 => by rw [if_pos q2]; exact ev_int) (fun q2 => by rw [if_neg (by rw [q2]; exact nofun)]; exact ev_int)) iop_add ?_ rfl kle)
          refine ws_nil (fin { t with dots := t.dots + (if m == 52 then 3 else 1) } _ (by unfold vsStep; rw [if_neg (by rw [q]; exact nofun), if_neg (of_decide_eq_false q1)]) ⟨Nat.le_trans hv.prod (by (clear hn hh ht hl b1 q q1; lia)), ?_, hv.side⟩ ⟨rfl, rfl, rfl, rfl, rfl, rfl, trivial⟩)
          have := hv.dots
          show 0 ≤ t.dots + (if m == 52 then 3 else 1) ∧ t.dots + (if m == 52 then 3 else 1) ≤ _
          split <;> (clear hn hh ht hl b1 q q1; lia)
    · rintro ρ' ⟨t, n, hl, hv, e2, hS⟩
      unfold valueOf
      rw [← show t = vsOf told high turn from e2]
      exact ws_sub hS (ws_cons (w1_ret (ev_bin vl (ev_bin vl vl (bin_mul (sideOk _ n hv)) kle) bin_add kle) rfl))
end Mine
/-! N7 -/
namespace Mine
open PySem PySem.W PySem.Spec PySem.Calls PyProof.Rows PySem.SeqAt
open Builtin.Int (intBits)

theorem pylong_by {a b : Int} (h : intBits b ≤ 64) : Builtin.divisionGoesByPylong a b = false := by
  unfold Builtin.divisionGoesByPylong
  dsimp only
  have d2 := digits_bits b
  rw [Bool.and_eq_false_iff, decide_eq_false_iff_not, decide_eq_false_iff_not]
  generalize (if b == 0 then 0 else b.natAbs.log2 / 30 + 1) = v at d2 ⊢
  subst d2
  left
  split <;> omega

theorem Iop.cast {C : Cx} {op : Operator} {a b d d' : D} (q : d = d') (h : Iop C op a b d) : Iop C op a b d' := q ▸ h
noncomputable def Div2 (C : Cx) (k M : Nat) : Prop := ∀ (a b : Int) (n : Nat), 1 ≤ n → n ≤ M → 2 ^ (n - 1) ≤ b → b < 2 ^ n → 0 ≤ a → a < b * 2 ^ n → Does C "_div2n1n" k [.int a, .int b, .int n] (.tup [.int (a / b), .int (a % b)])
noncomputable def Div3 (C : Cx) (k M : Nat) : Prop := ∀ (a12 a3 b b1 b2 : Int) (n : Nat), 1 ≤ n → n ≤ M → b = b1 * 2 ^ n + b2 → 0 ≤ b2 → b2 < 2 ^ n → 2 ^ (n - 1) ≤ b1 → b1 < 2 ^ n → 0 ≤ a12 → a12 < b → 0 ≤ a3 → a3 < 2 ^ n →
  Does C "_div3n2n" k [.int a12, .int a3, .int b, .int b1, .int b2, .int n] (.tup [.int ((a12 * 2 ^ n + a3) / b), .int ((a12 * 2 ^ n + a3) % b)])

noncomputable abbrev P_div3 : {d : DefRec // defOf pw "_div3n2n" = some (d, [])} := ⟨_, rfl⟩
noncomputable abbrev R_div3 : DefRec := P_div3.1
set_option maxHeartbeats 1000000 in
theorem t_div3 {C : Cx} (pr : Pr C) (h0 : C.hd = none) {k M : Nat} (hk : 1 ≤ k) (hM : M ≤ 1048576) (h2 : Div2 C k M) : Div3 C (k + 1) M := by
  intro a12 a3 b b1 b2 n hn hnM hb hb0 hbl hb1 hb1l ha0 hal h30 h3l
  have hp := pow_pos2 n
  have hp1 := pow_pos2 (n - 1)
  have hp2 : (2 : Int) ^ n = 2 * 2 ^ (n - 1) := by
    have : n = (n - 1) + 1 := by (clear hk hM hnM hb hb0 hbl hb1 hb1l ha0 hal h30 h3l hp hp1; lia)
    rw [this, Int.pow_succ, Nat.add_sub_cancel, Int.mul_comm]
  have hbb : b < 2 ^ n * 2 ^ n := by
    have : (b1 + 1) * 2 ^ n ≤ 2 ^ n * 2 ^ n := Int.mul_le_mul_of_nonneg_right (by (clear hk hM hn hnM hb hb0 hbl hb1 ha0 hal h30 h3l hp hp1; grind)) (Int.le_of_lt hp)
    rw [Int.add_mul] at this; (clear hk hM hn hnM hb0 hb1 hb1l ha0 hal h30 h3l hp hp1; lia)
  have bits2 : ∀ {x : Int}, 0 ≤ x → x < 2 ^ n * 2 ^ n → intBits x ≤ 2 * n := by
    intro x h0 h
    refine bits_of_lt h0 ?_
    rw [show 2 * n = n + n by (clear hk hM hn hnM hb hb0 hbl hb1 hb1l ha0 hal h30 h3l hp hp1 hp2 hbb h0 h; lia), Int.pow_add]; exact h
  have bits1 : ∀ {x : Int}, 0 ≤ x → x < 2 ^ n → intBits x ≤ n := fun h0 h => bits_of_lt h0 h
  have bb2 : intBits b2 ≤ n := bits1 hb0 hbl
  have bb1 : intBits b1 ≤ n := bits1 (by (clear hk hM hn hnM hb hb0 hbl hb1l ha0 hal h30 h3l hp1 hbb bb2; lia)) hb1l
  refine does (d := R_div3) (names := ["a12", "a3", "b", "b1", "b2", "n"]) pr P_div3.2 rfl (by decide) rfl (fun pm cd doc vs hl => ?_) (by decide) (fun L a cd A s hid => ?_)
  · obtain ⟨v1, v2, v3, v4, v5, v6, rfl⟩ := len_6 hl; rfl
  · have kk : 1 ≤ (Fx.fn (envOf "_div3n2n" R_div3.scope L a cd) A k s hid).k := hk
    have kk0 : 0 ≤ (Fx.fn (envOf "_div3n2n" R_div3.scope L a cd) A k s hid).k := Nat.zero_le _
    -- a part of the quotient and what is left
    have hq : ∃ q r : Int, a12 = q * b1 + r ∧ 0 ≤ q ∧ q < 2 ^ n ∧ 0 ≤ r ∧ r < 2 ^ n * 2 ^ n ∧ r * 2 ^ n + a3 - q * b2 < b ∧
        ((a12 / 2 ^ n = b1 ∧ q = 2 ^ n - 1 ∧ r = a12 - b1 * 2 ^ n + b1) ∨ (a12 / 2 ^ n ≠ b1 ∧ q = a12 / b1 ∧ r = a12 % b1 ∧ a12 < b1 * 2 ^ n)) := by
      have hd := Int.mul_ediv_add_emod a12 (2 ^ n)
      have hm0 := Int.emod_nonneg a12 (Int.ne_of_gt hp)
      have hm1 := Int.emod_lt_of_pos a12 hp
      rw [Int.mul_comm] at hd
      by_cases h : a12 / 2 ^ n = b1
      · rw [h] at hd
        refine ⟨2 ^ n - 1, a12 - b1 * 2 ^ n + b1, ?_, by (clear hk hM hn hnM hb hb0 hbl hb1 hb1l ha0 hal h30 h3l hp1 hbb bb2 bb1 kk kk0 hd hm0 hm1 h; grind), by (clear hk hM hn hnM hb hb0 hbl hb1 hb1l ha0 hal h30 h3l hp hp1 hp2 hbb bb2 bb1 kk kk0 hd hm0 hm1 h; lia), by (clear hk hM hn hnM hb hb0 hbl ha0 hal h30 h3l hp hp1 hbb bb2 bb1 kk kk0 hm0 hm1; omega), ?_, ?_, .inl ⟨h, rfl, rfl⟩⟩
        · rw [Int.sub_mul, Int.mul_comm (2 ^ n) b1]; (clear hk hM hn hnM hb hb0 hbl hb1 hb1l ha0 hal h30 h3l hp hp1 hp2 hbb bb2 bb1 kk kk0 hd hm0 hm1 h; lia)
        · have : 2 ^ n * 1 ≤ (2 : Int) ^ n * 2 ^ (n-1) := Int.mul_le_mul_of_nonneg_left (by (clear hk hM hn hnM hb hb0 hbl hb1 hb1l ha0 hal h30 h3l hp1 hbb bb2 bb1 kk kk0 hd hm0 hm1 h; lia)) (Int.le_of_lt hp)
          have e2 : (2 : Int) ^ n * 2 ^ n = 2 * (2 ^ n * 2 ^ (n - 1)) := by rw [hp2, ← hp2, ← Int.mul_assoc, Int.mul_comm 2 (2 ^ n), Int.mul_assoc, ← hp2]
          (clear hk hM hn hnM hb0 hb1 ha0 h30 h3l hp hp1 hbb bb2 bb1 kk kk0 hm0 hm1; lia)
        · have e1 : (a12 - b1 * 2 ^ n + b1) * 2 ^ n ≤ (b2 - 1 + b1) * 2 ^ n := Int.mul_le_mul_of_nonneg_right (by (clear hk hM hn hnM hb0 hbl hb1 hb1l ha0 h30 h3l hp hp1 hp2 hbb bb2 bb1 kk kk0 hm0 hm1 h; lia)) (Int.le_of_lt hp)
          have e3 : (b2 - 1 + b1) * 2 ^ n = b2 * 2 ^ n - 2 ^ n + b1 * 2 ^ n := by rw [Int.add_mul, Int.sub_mul, Int.one_mul]
          have e4 : (2 ^ n - 1) * b2 = b2 * 2 ^ n - b2 := by rw [Int.sub_mul, Int.one_mul, Int.mul_comm]
          (clear hk hM hn hnM hb0 hbl hb1 hb1l ha0 hal h30 hp hp1 hbb bb2 bb1 kk kk0 hm0 hm1 h; lia)
      · have hlt : a12 < b1 * 2 ^ n := by
          have h1 : a12 / 2 ^ n ≤ b1 := by
            have h3 : a12 < (b1 + 1) * 2 ^ n := by rw [Int.add_mul]; (clear hk hM hn hnM hb0 hb1 hb1l ha0 h30 h3l hp hp1 hbb bb2 bb1 kk kk0 hm0 hm1 h; lia)
            have := Int.ediv_lt_of_lt_mul hp h3
            (clear hk hM hn hnM hb hb0 hbl hb1 hb1l ha0 hal h30 h3l hp hp1 hp2 hbb bb2 bb1 kk kk0 hd hm0 hm1 h h3; lia)
          have : a12 / 2 ^ n < b1 := by (clear hk hM hn hnM hb hb0 hbl hb1 hb1l ha0 hal h30 h3l hp hp1 hp2 hbb bb2 bb1 kk kk0 hd hm0 hm1; lia)
          exact Int.lt_mul_of_ediv_lt hp this
        have hb1p : 0 < b1 := by (clear hk hM hn hnM hb hb0 hbl hb1l ha0 hal h30 h3l hp1 hbb bb2 bb1 kk kk0 hd hm0 hm1 h hlt; lia)
        have hr0 := Int.emod_nonneg a12 (Int.ne_of_gt hb1p)
        have hr1 := Int.emod_lt_of_pos a12 hb1p
        have he := Int.mul_ediv_add_emod a12 b1
        rw [Int.mul_comm] at he
        have hq0 : 0 ≤ a12 / b1 := Int.ediv_nonneg ha0 (Int.le_of_lt hb1p)
        have hq1 : a12 / b1 < 2 ^ n := Int.ediv_lt_of_lt_mul hb1p (by rw [Int.mul_comm]; exact hlt)
        refine ⟨a12 / b1, a12 % b1, he.symm, hq0, hq1, hr0, ?_, ?_, .inr ⟨h, rfl, rfl, hlt⟩⟩
        · have : 2 ^ n * 1 ≤ (2 : Int) ^ n * 2 ^ n := Int.mul_le_mul_of_nonneg_left (by (clear hk hM hn hnM hb hb0 hbl hb1 hb1l ha0 hal h30 h3l hp1 hbb bb2 bb1 kk kk0 hd hm0 hm1 h hlt hb1p hr0 hr1 he hq0 hq1; grind)) (Int.le_of_lt hp)
          (clear hk hM hn hnM hb hb0 hbl hb1 ha0 hal h30 h3l hp hp1 hbb bb2 bb1 kk kk0 hd hm0 hm1 h hlt hb1p hr0 he hq0 hq1; grind)
        · have e1 : (a12 % b1 + 1) * 2 ^ n ≤ b1 * 2 ^ n := Int.mul_le_mul_of_nonneg_right (by (clear hk hM hn hnM hb hb0 hbl hb1 hb1l ha0 hal h30 h3l hp hp1 hp2 hbb bb2 bb1 kk kk0 hd hm0 hm1 h hlt hb1p hr0 he hq0 hq1; lia)) (Int.le_of_lt hp)
          have e2 : 0 ≤ a12 / b1 * b2 := Int.mul_nonneg hq0 hb0
          rw [Int.add_mul] at e1
          (clear hk hM hn hnM hbl hb1 hb1l ha0 hal h30 hp hp1 hbb bb2 bb1 kk kk0 hd hm0 hm1 h hlt hb1p hr0 hr1 he hq0 hq1; omega)
    obtain ⟨q, r, eqr, hq0, hq1, hr0, hrl, hlt, hcase⟩ := hq
    refine ws_if (b := a12 / 2 ^ n == b1) (σ := [("q", .val (.int q)), ("r", .val (.int r)), ("a3", .val (.int a3)), ("b", .val (.int b)), ("b2", .val (.int b2)), ("n", .val (.int (n : Int)))]) (Ts.cast (by rw [Int.toNat_natCast, fdiv_pos (Int.le_of_lt hp)]) (ts_cmp (ev_bin vl vl (bin_shr (b := (n : Int)) (by (clear hk hM hnM hb hb0 hbl hb1 hb1l ha0 hal h30 h3l hp hp1 hp2 hbb bb2 bb1 kk kk0 eqr hq0 hq1 hr0 hrl hlt hcase; lia))) kk) vl cmp_eq kk)) (fun hh => ?_) (fun hh => ?_) ?_
    · have hh : a12 / 2 ^ n = b1 := by simpa using hh
      rcases hcase with ⟨_, rfl, rfl⟩ | ⟨h, _⟩
      · refine ws_cons (w1_swap ["q", "r"] (ev_tuple (ds := [.int (2 ^ n - 1), .int (a12 - b1 * 2 ^ n + b1)]) (evs_cons (Ev.cast (by rw [Int.toNat_natCast, Int.one_mul]) (ev_bin (ev_bin ev_int vl (bin_shl (b := (n : Int)) (by (clear hk hM hnM hb hb0 hbl hb1 hb1l ha0 hal h30 h3l hp hp1 hp2 hbb bb2 bb1 kk kk0 hh hq0 hq1 hr0 hrl eqr hlt; lia)) (by rw [show intBits 1 = 1 by decide]; (clear hk hn hb hb0 hbl hb1 hb1l ha0 hal h30 h3l hp hp1 hp2 hbb bb2 bb1 kk kk0 hh hq0 hq1 hr0 hrl eqr hlt; lia))) kk) ev_int bin_sub kk)) (evs_cons (Ev.cast (by rw [Int.toNat_natCast]) (ev_bin (ev_bin vl (ev_bin vl vl (bin_shl (b := (n : Int)) (by (clear hk hM hnM hb hb0 hbl hb1 hb1l ha0 hal h30 h3l hp hp1 hp2 hbb bb2 bb1 kk kk0 hh hq0 hq1 hr0 hrl eqr hlt; lia)) (by (clear hk hb hb0 hbl hb1 hb1l ha0 hal h30 h3l hp hp1 hp2 hbb bb2 kk kk0 hh hq0 hq1 hr0 hrl eqr hlt; lia))) kk) bin_sub kk) vl bin_add kk)) evs_nil)) kle) (loc2 rfl rfl) rfl rfl ?_)
        exact ws_nil ⟨rfl, rfl, rfl, rfl, rfl, rfl, trivial⟩
      · exact absurd hh h
    · have hh : a12 / 2 ^ n ≠ b1 := by simpa using hh
      rcases hcase with ⟨h, _⟩ | ⟨_, rfl, rfl, hl2⟩
      · exact absurd h hh
      · refine ws_cons (w1_assign_tuple (ev_call (h2 a12 b1 n hn hnM hb1 hb1l ha0 hl2) (evs_cons vl (evs_cons vl (evs_cons vl evs_nil))) (Nat.le_refl _) rfl) (.cons (as_name rfl) (.cons (as_name rfl) .nil rfl) rfl) ?_)
        exact ws_nil ⟨rfl, rfl, rfl, rfl, rfl, rfl, trivial⟩
    · have br : intBits r ≤ 2 * n := bits2 hr0 hrl
      have bq : intBits q ≤ n := bits1 hq0 hq1
      refine ws_cons (w1_assign (d := .int (r * 2 ^ n + a3 - q * b2)) (Ev.cast (by rw [Int.toNat_natCast, or_low hr0 h30 h3l]) (ev_bin (ev_bin (ev_bin vl vl (bin_shl (b := (n : Int)) (by (clear hk hM hnM hb hb0 hbl hb1 hb1l ha0 hal h30 h3l hp hp1 hp2 hbb bb2 bb1 kk kk0 eqr hq0 hq1 hr0 hrl hlt hcase br bq; lia)) (by (clear hk hb hb0 hbl hb1 hb1l ha0 hal h30 h3l hp hp1 hp2 hbb bb2 bb1 kk kk0 eqr hq0 hq1 hr0 hrl hlt hcase bq; lia))) kk) vl bin_or kk) (ev_bin vl vl (bin_mul (mulOk_of_bits bq bb2 (by (clear hk hn hb hb0 hbl hb1 hb1l ha0 hal h30 h3l hp hp1 hp2 hbb bb2 bb1 kk kk0 eqr hq0 hq1 hr0 hrl hlt hcase br bq; lia)))) kk) bin_sub kk)) ?_ rfl)
      have key := div3 (a3 := a3) hb ⟨hb0, hbl⟩ ⟨h30, h3l⟩ eqr
      have hbp : 0 < b := by
        have : 0 < b1 * 2 ^ n := Int.mul_pos (by (clear hk hM hn hnM hb hb0 hbl hb1l ha0 hal h30 h3l hp1 hbb bb2 bb1 kk kk0 eqr hq0 hq1 hr0 hrl hlt hcase br bq key; lia)) hp
        (clear hk hM hn hnM hb0 hbl hb1 hb1l h30 h3l hp hp1 hp2 hbb bb2 bb1 kk kk0 hq0 hq1 hr0 hrl hlt hcase br bq key this; grind)
      refine ws_while (α := Int × Int) (fun x => [("q", .val (.int x.1)), ("r", .val (.int x.2)), ("b", .val (.int b))]) (fun x => (-x.2).toNat) (fun x => a12 * 2 ^ n + a3 = x.1 * b + x.2 ∧ x.2 < b) (q, r * 2 ^ n + a3 - q * b2) ⟨rfl, rfl, rfl, trivial⟩ ⟨key, hlt⟩ ?_
      rintro ⟨u, v⟩ ⟨e1, e2⟩
      dsimp only at e1 e2 ⊢
      refine ⟨decide (v < 0), ts_cmp vl ev_int cmp_lt kk, fun hb' => ?_, fun hb' => ?_⟩
      · have hv := of_decide_eq_true hb'
        refine ws_cons (w1_aug (x := "q") (d := .int (u - 1)) rfl ev_int iop_sub ?_ rfl kk)
        refine ws_cons (w1_aug (x := "r") (d := .int (v + b)) rfl vl iop_add ?_ rfl kk)
        exact ws_nil ⟨(u - 1, v + b), by dsimp only; (clear hk hM hn hnM hb0 hbl hb1 hb1l ha0 hal h30 h3l hp hp1 hp2 hbb bb2 bb1 kk kk0 eqr hq0 hq1 hr0 hrl hlt hcase br bq key e1 e2 hb'; omega), ⟨by dsimp only; rw [e1, Int.sub_mul]; (clear hk hM hn hnM hb hb0 hbl hb1 hb1l ha0 hal h30 h3l hp hp1 hp2 hbb bb2 bb1 kk kk0 eqr hq0 hq1 hr0 hrl hlt hcase br bq key hbp e1 e2 hb' hv; lia), by dsimp only; (clear hk hM hn hnM hb hb0 hbl hb1 hb1l ha0 hal h30 h3l hp hp1 hp2 hbb bb2 bb1 kk kk0 eqr hq0 hq1 hr0 hrl hlt hcase br bq key hbp e1 e2 hb'; lia)⟩, rfl, rfl, rfl, trivial⟩
      · have hv := of_decide_eq_false hb'
        obtain ⟨d1, d2⟩ := div_unique e1 (by (clear hk hM hn hnM hb hb0 hbl hb1 hb1l ha0 hal h30 h3l hp hp1 hp2 hbb bb2 bb1 kk kk0 eqr hq0 hq1 hr0 hrl hlt hcase br bq key hbp e1 e2 hb'; lia)) e2
        rw [d1, d2]
        exact ws_cons (w1_ret (ev_tuple (evs_cons vl (evs_cons vl evs_nil)) kle) rfl)

theorem bt_divmod : bootBuiltins "divmod" = some (.builtin "divmod") := by with_unfolding_all rfl
theorem Pr.divmod {C : Cx} (pr : Pr C) : C.mg (Str.ofString "divmod") = none := pr.no _ (by rw [show bootBuiltins (Str.ofString "divmod") = some (.builtin "divmod") from bt_divmod]; exact nofun) (by decide)
noncomputable abbrev P_div2 : {d : DefRec // defOf pw "_div2n1n" = some (d, [])} := ⟨_, rfl⟩
noncomputable abbrev R_div2 : DefRec := P_div2.1
theorem div2_law {a b : Int} {h : Nat} (hb : 0 < b) (hbl : b < 2 ^ (2 * h)) (ha : 0 ≤ a) (hal : a < b * 2 ^ (2 * h)) :
    let a1 := a / 2 ^ (2 * h); let ah := a / 2 ^ h % 2 ^ h; let al := a % 2 ^ h
    0 ≤ a1 ∧ a1 < b ∧ (0 ≤ ah ∧ ah < 2 ^ h) ∧ (0 ≤ al ∧ al < 2 ^ h) ∧ (a1 * 2 ^ h + ah) / b * 2 ^ h + ((a1 * 2 ^ h + ah) % b * 2 ^ h + al) / b = a / b ∧ ((a1 * 2 ^ h + ah) % b * 2 ^ h + al) % b = a % b ∧
      0 ≤ (a1 * 2 ^ h + ah) / b ∧ (0 ≤ ((a1 * 2 ^ h + ah) % b * 2 ^ h + al) / b ∧ ((a1 * 2 ^ h + ah) % b * 2 ^ h + al) / b < 2 ^ h) ∧ (a1 * 2 ^ h + ah) / b < 2 ^ h := by
  intro a1 ah al
  have hp := pow_pos2 h
  have hpp : (2 : Int) ^ (2 * h) = 2 ^ h * 2 ^ h := by rw [show 2 * h = h + h by (clear hb hbl ha hal hp; lia), Int.pow_add]
  have hp2 := pow_pos2 (2 * h)
  have q1 : 0 ≤ a1 := Int.ediv_nonneg ha (Int.le_of_lt hp2)
  have q2 : a1 < b := Int.ediv_lt_of_lt_mul hp2 hal
  have q3 : 0 ≤ ah ∧ ah < 2 ^ h := ⟨Int.emod_nonneg _ (Int.ne_of_gt hp), Int.emod_lt_of_pos _ hp⟩
  have q4 : 0 ≤ al ∧ al < 2 ^ h := ⟨Int.emod_nonneg _ (Int.ne_of_gt hp), Int.emod_lt_of_pos _ hp⟩
  have e1 : a / 2 ^ h = a1 * 2 ^ h + ah := by
    have := Int.mul_ediv_add_emod (a / 2 ^ h) (2 ^ h)
    have e : a / 2 ^ h / 2 ^ h = a1 := by rw [Int.ediv_ediv, if_neg (fun q => absurd q.1 (by (clear hb hbl ha hal hpp hp2 q1 q2 q3 q4 this; lia))), ← hpp, Int.sub_zero]
    rw [e, Int.mul_comm] at this
    exact this.symm
  have e2 : a = (a1 * 2 ^ h + ah) * 2 ^ h + al := by
    have := Int.mul_ediv_add_emod a (2 ^ h)
    rw [e1, Int.mul_comm] at this
    exact this.symm
  have q5 : a1 * 2 ^ h + ah < b * 2 ^ h := by
    have : (a1 + 1) * 2 ^ h ≤ b * 2 ^ h := Int.mul_le_mul_of_nonneg_right (by (clear hb hbl ha hal hp hpp hp2 q1 q3 q4 e1 e2; lia)) (Int.le_of_lt hp)
    rw [Int.add_mul] at this; (clear hb hbl ha hal hp hpp hp2 q1 q2 q4 e2; omega)
  have q0 : 0 ≤ a1 * 2 ^ h := Int.mul_nonneg q1 (Int.le_of_lt hp)
  generalize hH : a1 * 2 ^ h + ah = H at *
  have f1 := Int.mul_ediv_add_emod H b
  have f2 := Int.emod_nonneg H (Int.ne_of_gt hb)
  have f3 := Int.emod_lt_of_pos H hb
  have f4 : 0 ≤ H / b := Int.ediv_nonneg (by (clear hb hbl ha hal hp hpp hp2 q1 q2 q4 e2 q5 f2 f3; lia)) (Int.le_of_lt hb)
  have f5 : H / b < 2 ^ h := Int.ediv_lt_of_lt_mul hb (by rw [Int.mul_comm]; exact q5)
  have q6 : H % b * 2 ^ h + al < b * 2 ^ h := by
    have : (H % b + 1) * 2 ^ h ≤ b * 2 ^ h := Int.mul_le_mul_of_nonneg_right (by (clear hb hbl ha hal hp hpp hp2 q1 q2 q3 q4 q0 hH e1 e2 q5 f1 f2 f4 f5; lia)) (Int.le_of_lt hp)
    rw [Int.add_mul] at this; (clear hb hbl ha hal hp hpp hp2 q1 q2 q3 q0 hH e1 e2 q5 f1 f2 f3 f4 f5; omega)
  have q7 : 0 ≤ H % b * 2 ^ h := Int.mul_nonneg f2 (Int.le_of_lt hp)
  generalize hG : H % b * 2 ^ h + al = G at *
  have g1 := Int.mul_ediv_add_emod G b
  have g2 := Int.emod_nonneg G (Int.ne_of_gt hb)
  have g3 := Int.emod_lt_of_pos G hb
  have g4 : 0 ≤ G / b := Int.ediv_nonneg (by (clear hb hbl ha hal hp hpp hp2 q1 q2 q3 q0 hH e1 e2 q5 f1 f2 f3 f4 f5 q6 g2 g3; lia)) (Int.le_of_lt hb)
  have g5 : G / b < 2 ^ h := Int.ediv_lt_of_lt_mul hb (by rw [Int.mul_comm]; exact q6)
  have fin : a = (H / b * 2 ^ h + G / b) * b + G % b := by
    rw [e2, Int.add_mul]
    have t1 : H * 2 ^ h = H / b * 2 ^ h * b + H % b * 2 ^ h := by
      have : H * 2 ^ h = (b * (H / b) + H % b) * 2 ^ h := by rw [f1]
      rw [this, Int.add_mul, Int.mul_comm b, Int.mul_right_comm]
    have t2 : G / b * b = b * (G / b) := Int.mul_comm _ _
    (clear hb hbl ha hal hp hpp hp2 q1 q2 q3 q4 q0 hH e1 e2 q5 f1 f2 f3 f4 f5 q7 q6 g2 g3 g4 g5; lia)
  obtain ⟨d1, d2⟩ := div_unique fin g2 g3
  exact ⟨q1, q2, q3, q4, d1.symm, d2.symm, f4, ⟨g4, g5⟩, f5⟩

set_option maxHeartbeats 1000000 in
theorem t_div2_step {C : Cx} (pr : Pr C) (h0 : C.hd = none) {k M : Nat} (hk : 1 ≤ k) (hM : M ≤ 1048576) (h3 : Div3 C k M) : Div2 C (k + 1) (2 * M) := by
  intro a b n hn hnM hb hbl ha hal
  have hp := pow_pos2 n
  have hbp : 0 < b := Int.lt_of_lt_of_le (pow_pos2 (n - 1)) hb
  have bba : intBits a ≤ 2 * n := bits_of_lt ha (by
    have : b * 2 ^ n ≤ 2 ^ n * 2 ^ n := Int.mul_le_mul_of_nonneg_right (by (clear hk hM hn hnM hb ha hal hp hbp; lia)) (Int.le_of_lt hp)
    rw [show 2 * n = n + n by (clear hk hM hn hnM hb hbl ha hal hp hbp this; lia), Int.pow_add]; (clear hk hM hn hnM hb hbl ha hp hbp; omega))
  have bbb : intBits b ≤ n := bits_of_lt (by (clear hk hM hn hnM hb hbl ha hal hp bba; lia)) hbl
  have bbn : n ≤ intBits b := le_bits hn hb
  refine does (d := R_div2) (names := ["a", "b", "n"]) pr P_div2.2 rfl (by decide) rfl (fun pm cd doc vs hl => ?_) (by decide) (fun L a' cd A s hid => ?_)
  · obtain ⟨v1, v2, v3, rfl⟩ := len_3 hl; rfl
  · have kk : 1 ≤ (Fx.fn (envOf "_div2n1n" R_div2.scope L a' cd) A k s hid).k := hk
    have kk0 : 0 ≤ (Fx.fn (envOf "_div2n1n" R_div2.scope L a' cd) A k s hid).k := Nat.zero_le _
    refine ws_cons (w1_if (b := decide ((intBits a : Int) - n ≤ 4000)) (ts_cmp (ev_bin (ev_meth (T := "int") (vl (d := .int a)) evs_nil rfl call_bits kk0 PySem.F.plainAttrs_int PySem.F.slot_int_bit_length PySem.F.type_int_bit_length) vl bin_sub kk) (ev_glob pr.dl rfl) cmp_le kk) (fun q => ?_) (fun q => ?_))
    · have q := of_decide_eq_true q
      refine ws_cons (w1_ret (d := .tup [.int (a / b), .int (a % b)]) (ev_call_bi pr.divmod bt_divmod (evs_cons vl (evs_cons vl evs_nil)) ?_ kk0 rfl) rfl)
      rw [← fdiv_pos (Int.le_of_lt hbp), ← fmod_pos (Int.le_of_lt hbp)]
      exact call_divmod (by (clear hk hM hn hnM hb hbl ha hal hp bba bbb bbn kk kk0 q; lia)) (pylong_small (by (clear hk hM hn hnM hb hbl ha hal hp hbp bba kk kk0; lia)))
    · refine ws_nil ?_
      obtain ⟨p, hpd⟩ : ∃ p, p = n % 2 := ⟨_, rfl⟩
      have hp2 : p < 2 := by (clear hk hM hn hnM hb hbl ha hal hp hbp bba kk kk0 q; lia)
      refine ws_cons (w1_assign (d := .int (p : Int)) (Ev.cast (b := .int (Builtin.bitAnd (n : Int) 1)) (by rw [bitAnd_m1, hpd]; simp) (ev_bin vl ev_int bin_and kk)) ?_ rfl)
      refine ws_if (b := p == 1) (σ := [("a", .val (.int (a * 2 ^ p))), ("b", .val (.int (b * 2 ^ p))), ("n", .val (.int ((n + p : Nat) : Int))), ("pad", .val (.int (p : Int)))]) (ts_val (d := .int (p : Int)) vl ?_ trivial) (fun q1 => ?_) (fun q1 => ?_) ?_
      · have : p = 0 ∨ p = 1 := by (clear hk hM hn hnM hb hbl ha hal hp hbp bba bbb bbn kk kk0 q hpd; lia)
        rcases this with q | q <;> rw [q] <;> rfl
      · have q1 : p = 1 := by simpa using q1
        rw [q1]
        refine ws_cons (w1_aug (x := "a") (d := .int (a * 2 ^ 1)) rfl ev_int (iop_shl (b := 1) (by decide) (by (clear hk hn hb hbl ha hal hp hbp kk kk0 q hp2; lia))) ?_ rfl kk)
        refine ws_cons (w1_aug (x := "b") (d := .int (b * 2 ^ 1)) rfl ev_int (iop_shl (b := 1) (by decide) (by (clear hk hn hb hbl ha hal hp hbp bba kk kk0 q hp2; lia))) ?_ rfl kk)
        refine ws_cons (w1_aug (x := "n") (d := .int ((n : Int) + 1)) rfl ev_int iop_add ?_ rfl kk)
        exact ws_nil ⟨rfl, rfl, rfl, rfl, trivial⟩
      · have q1 : p = 0 := by
          have : p ≠ 1 := by simpa using q1
          (clear hk hM hn hnM hb hbl ha hal hp hbp bba bbb bbn kk kk0 q hpd q1; lia)
        rw [q1]
        exact ws_nil ⟨by rw [Int.pow_zero, Int.mul_one]; rfl, by rw [Int.pow_zero, Int.mul_one]; rfl, rfl, rfl, trivial⟩
      · obtain ⟨h, hh⟩ : ∃ h, n + p = 2 * h := ⟨(n + p) / 2, by (clear hk hM hn hnM hb hbl ha hal hp hbp bba kk kk0 q hp2; lia)⟩
        have hpp := pow_pos2 p
        have hph := pow_pos2 h
        have e2h : (2 : Int) ^ (2 * h) = 2 ^ n * 2 ^ p := by rw [← hh, Int.pow_add]
        have ehh : (2 : Int) ^ (2 * h) = 2 ^ h * 2 ^ h := by rw [show 2 * h = h + h by (clear hk hM hn hnM hb hbl ha hal hp hbp bba bbb bbn kk kk0 q hpd hp2 hh hpp hph e2h; lia), Int.pow_add]
        rw [hh]
        have A1 : 0 ≤ a * 2 ^ p := Int.mul_nonneg ha (Int.le_of_lt hpp)
        have B0 : 0 < b * 2 ^ p := Int.mul_pos hbp hpp
        have B1 : b * 2 ^ p < 2 ^ (2 * h) := by rw [e2h]; exact Int.mul_lt_mul_of_pos_right hbl hpp
        have B2 : 2 ^ (2 * h - 1) ≤ b * 2 ^ p := by
          have : (2 : Int) ^ (2 * h - 1) = 2 ^ (n - 1) * 2 ^ p := by rw [← Int.pow_add]; congr 1; (clear hk hM hnM hb hbl ha hal hp hbp bba kk kk0 q hp2 hpp hph e2h ehh A1 B0 B1; lia)
          rw [this]; exact Int.mul_le_mul_of_nonneg_right hb (Int.le_of_lt hpp)
        have A2 : a * 2 ^ p < b * 2 ^ p * 2 ^ (2 * h) := by
          have h1 : a * 2 ^ p < b * 2 ^ n * 2 ^ p := Int.mul_lt_mul_of_pos_right hal hpp
          have h2 : b * 2 ^ n * 2 ^ p * 1 ≤ b * 2 ^ n * 2 ^ p * 2 ^ p := Int.mul_le_mul_of_nonneg_left (by (clear hk hM hn hnM hb hbl ha hal hp hbp bba bbb bbn kk kk0 q hpd hp2 hh hph e2h ehh A1 B0 B1 B2 h1; lia)) (by (clear hk hM hn hnM hb hbl ha hal hp hbp bba bbb bbn kk kk0 q hpd hp2 hh hpp hph e2h ehh B0 B1 B2; lia))
          have h3 : b * 2 ^ p * 2 ^ (2 * h) = b * 2 ^ n * 2 ^ p * 2 ^ p := by rw [e2h]; simp only [Int.mul_assoc, Int.mul_left_comm, Int.mul_comm]
          (clear hk hM hn hnM hb hbl ha hal hp hbp bba bbb bbn kk kk0 q hpd hp2 hh hpp hph e2h ehh A1 B0 B1 B2; omega)
        have fqr : a * 2 ^ p / (b * 2 ^ p) = a / b ∧ a * 2 ^ p % (b * 2 ^ p) = a % b * 2 ^ p := by
          have e1 := Int.mul_ediv_add_emod a b
          have r0 := Int.emod_nonneg a (Int.ne_of_gt hbp)
          have r1 := Int.emod_lt_of_pos a hbp
          refine div_unique ?_ (Int.mul_nonneg r0 (Int.le_of_lt hpp)) (Int.mul_lt_mul_of_pos_right r1 hpp)
          have : a * 2 ^ p = (b * (a / b) + a % b) * 2 ^ p := by rw [e1]
          rw [this, Int.add_mul, Int.mul_comm b, Int.mul_assoc]
        obtain ⟨fq, fr⟩ := fqr
        generalize a * 2 ^ p = a2 at *
        generalize b * 2 ^ p = b2 at *
        have h1 : 1 ≤ h := by (clear hk hM hnM hb hbl ha hal hp hbp bba kk kk0 q hp2 hpp hph e2h ehh A1 B0 B1 B2 A2 fq fr; lia)
        have hM2 : h ≤ M := by (clear hk hM hn hb hbl ha hal hp hbp bba kk kk0 q hp2 hpp hph e2h ehh A1 B0 B1 B2 A2 fq fr h1; lia)
        have ba2 : intBits a2 ≤ 4 * h := bits_of_lt A1 (by
          have : b2 * 2 ^ (2 * h) ≤ 2 ^ (2 * h) * 2 ^ (2 * h) := Int.mul_le_mul_of_nonneg_right (by (clear hk hM hn hnM hb hbl ha hal hp hbp bba bbb bbn kk kk0 q hpd hp2 hh hpp hph A1 B0 B2 A2 fq fr h1 hM2; lia)) (Int.le_of_lt (pow_pos2 _))
          rw [show 4 * h = 2 * h + 2 * h by (clear hk hM hn hnM hb hbl ha hal hp hbp bba bbb bbn kk kk0 q hpd hp2 hh hpp hph e2h ehh A1 B0 B1 B2 A2 fq fr h1 hM2 this; lia), Int.pow_add]; (clear hk hM hn hnM hb hbl ha hal hp hbp bba bbb bbn kk kk0 q hpd hp2 hh hpp hph e2h ehh A1 B0 B1 B2 fq fr h1 hM2; omega))
        obtain ⟨l1, l2, ⟨l3, l4⟩, ⟨l5, l6⟩, l7, l8, l9, ⟨l10, l11⟩, l12⟩ := div2_law B0 B1 A1 A2
        have c1 : b2 = b2 / 2 ^ h * 2 ^ h + b2 % 2 ^ h := by have := Int.mul_ediv_add_emod b2 (2 ^ h); rw [Int.mul_comm] at this; exact this.symm
        have c2 := Int.emod_nonneg b2 (Int.ne_of_gt hph)
        have c3 := Int.emod_lt_of_pos b2 hph
        have c4 : 2 ^ (h - 1) ≤ b2 / 2 ^ h := by
          refine Int.le_ediv_of_mul_le hph ?_
          rw [← Int.pow_add, show h - 1 + h = 2 * h - 1 by (clear hk hM hn hnM hb hbl ha hal hp hbp bba bbb bbn kk kk0 q hpd hp2 hh hpp hph e2h ehh A1 B0 B1 B2 A2 fq fr hM2 ba2 l1 l2 l3 l4 l5 l6 l7 l8 l9 l12 l10 l11 c1 c2 c3; lia)]; exact B2
        have c5 : b2 / 2 ^ h < 2 ^ h := Int.ediv_lt_of_lt_mul hph (by rw [← ehh]; exact B1)
        have d1 := h3 (a2 / 2 ^ (2 * h)) (a2 / 2 ^ h % 2 ^ h) b2 (b2 / 2 ^ h) (b2 % 2 ^ h) h h1 hM2 c1 c2 c3 c4 c5 l1 l2 l3 l4
        have m2 := Int.emod_nonneg (a2 / 2 ^ (2 * h) * 2 ^ h + a2 / 2 ^ h % 2 ^ h) (Int.ne_of_gt B0)
        have m3 := Int.emod_lt_of_pos (a2 / 2 ^ (2 * h) * 2 ^ h + a2 / 2 ^ h % 2 ^ h) B0
        have d2 := h3 ((a2 / 2 ^ (2 * h) * 2 ^ h + a2 / 2 ^ h % 2 ^ h) % b2) (a2 % 2 ^ h) b2 (b2 / 2 ^ h) (b2 % 2 ^ h) h h1 hM2 c1 c2 c3 c4 c5 m2 m3 l5 l6
        rw [← fq, ← l7]
        have fin : a % b = (a2 % b2) / 2 ^ p := by rw [fr, Int.mul_ediv_cancel _ (Int.ne_of_gt hpp)]
        rw [fin, ← l8]
        generalize hu1 : (a2 / 2 ^ (2 * h) * 2 ^ h + a2 / 2 ^ h % 2 ^ h) / b2 = u1 at *
        generalize hr1 : (a2 / 2 ^ (2 * h) * 2 ^ h + a2 / 2 ^ h % 2 ^ h) % b2 = r1 at *
        generalize hu2 : (r1 * 2 ^ h + a2 % 2 ^ h) / b2 = u2 at *
        generalize hr2 : (r1 * 2 ^ h + a2 % 2 ^ h) % b2 = r2 at *
        refine ws_cons (w1_assign (d := .int (h : Int)) (Ev.cast (b := .int (((2 * h : Nat) : Int).fdiv (2 ^ (1 : Int).toNat))) (by rw [fdiv_pos (by decide)]; show D.int (((2 * h : Nat) : Int) / 2) = _; congr 1; (clear hk hM hn hnM hb hbl ha hal hp hbp bba bbb bbn kk kk0 q hpd hp2 hh hpp hph e2h ehh A1 B0 B1 B2 A2 fq fr h1 hM2 ba2 l1 l2 l3 l4 l5 l6 c1 c2 c3 c4 c5 fin hu1 l9 l12 hr1 m2 m3 hu2 l10 l11 l7 hr2 l8; lia)) (ev_bin vl ev_int (bin_shr (b := 1) (by decide)) kk)) ?_ rfl)
        refine ws_cons (w1_assign (d := .int (2 ^ h - 1)) (Ev.cast (b := .int (1 * 2 ^ ((h : Int).toNat) - 1)) (by rw [Int.toNat_natCast, Int.one_mul]) (ev_bin (ev_bin ev_int vl (bin_shl (b := (h : Int)) (by (clear hk hM hn hnM hb hbl ha hal hp hbp bba bbb bbn kk kk0 q hpd hp2 hh hpp hph e2h ehh A1 B0 B1 B2 A2 fq fr hM2 ba2 l1 l2 l3 l4 l5 l6 c1 c2 c3 c4 c5 fin hu1 l9 l12 hr1 m2 m3 hu2 l10 l11 l7 hr2 l8; lia)) (by rw [show intBits 1 = 1 by decide]; (clear hk hn hnM hb hbl ha hal hp hbp bba bbb bbn kk kk0 q hpd hp2 hh hpp hph e2h ehh A1 B0 B1 B2 A2 fq fr h1 ba2 l1 l2 l3 l4 l5 l6 c1 c2 c3 c4 c5 fin hu1 l9 l12 hr1 m2 m3 hu2 l10 l11 l7 hr2 l8; lia))) kk) ev_int bin_sub kk)) ?_ rfl)
        have sh : ∀ (x : Int), x.fdiv (2 ^ ((h : Int).toNat)) = x / 2 ^ h := fun x => by rw [Int.toNat_natCast, fdiv_pos (Int.le_of_lt hph)]
        have sh2 : ∀ (x : Int), x.fdiv (2 ^ (((2 * h : Nat) : Int).toNat)) = x / 2 ^ (2 * h) := fun x => by rw [Int.toNat_natCast, fdiv_pos (Int.le_of_lt (pow_pos2 _))]
        refine ws_cons (w1_swap ["b1", "b2"] (ev_tuple (ds := [.int (b2 / 2 ^ h), .int (b2 % 2 ^ h)]) (evs_cons (Ev.cast (by rw [sh]) (ev_bin vl vl (bin_shr (b := (h : Int)) (by (clear hk hM hn hnM hb hbl ha hal hp hbp bba bbb bbn kk kk0 q hpd hp2 hh hpp hph e2h ehh A1 B0 B1 B2 A2 fq fr hM2 ba2 l1 l2 l3 l4 l5 l6 c1 c2 c3 c4 c5 fin hu1 l9 l12 hr1 m2 m3 hu2 l10 l11 l7 hr2 l8; lia))) kk)) (evs_cons (Ev.cast (by rw [kbt_mask]) (ev_bin (b := .int (2 ^ h - 1)) vl vl bin_and kk)) evs_nil)) kle) (loc2 rfl rfl) rfl rfl ?_)
        refine ws_cons (w1_assign_tuple (ev_call d1 (evs_cons (Ev.cast (by rw [sh2]) (ev_bin vl vl (bin_shr (b := ((2 * h : Nat) : Int)) (by (clear hk hM hn hnM hb hbl ha hal hp hbp bba bbb bbn kk kk0 q hpd hp2 hh hpp hph e2h ehh A1 B0 B1 B2 A2 fq fr hM2 ba2 l1 l2 l3 l4 l5 l6 c1 c2 c3 c4 c5 fin hu1 l9 l12 hr1 m2 m3 hu2 l10 l11 l7 hr2 l8; lia))) kk)) (evs_cons (Ev.cast (by rw [kbt_mask, sh]) (ev_bin (b := .int (2 ^ h - 1)) (ev_bin vl vl (bin_shr (b := (h : Int)) (by (clear hk hM hn hnM hb hbl ha hal hp hbp bba bbb bbn kk kk0 q hpd hp2 hh hpp hph e2h ehh A1 B0 B1 B2 A2 fq fr hM2 ba2 l1 l2 l3 l4 l5 l6 c1 c2 c3 c4 c5 fin hu1 l9 l12 hr1 m2 m3 hu2 l10 l11 l7 hr2 l8; lia))) kk) vl bin_and kk)) (evs_cons vl (evs_cons vl (evs_cons vl (evs_cons vl evs_nil)))))) (Nat.le_refl _) rfl) (.cons (as_name rfl) (.cons (as_name rfl) .nil rfl) rfl) ?_)
        refine ws_cons (w1_assign_tuple (ev_call d2 (evs_cons vl (evs_cons (Ev.cast (by rw [kbt_mask]) (ev_bin (b := .int (2 ^ h - 1)) vl vl bin_and kk)) (evs_cons vl (evs_cons vl (evs_cons vl (evs_cons vl evs_nil)))))) (Nat.le_refl _) rfl) (.cons (as_name rfl) (.cons (as_name rfl) .nil rfl) rfl) ?_)
        refine ws_if (b := p == 1) (σ := [("r", .val (.int (r2 / 2 ^ p))), ("q2", .val (.int u2)), ("q1", .val (.int u1)), ("half_n", .val (.int (h : Int)))]) (ts_val (d := .int (p : Int)) vl ?_ trivial) (fun q1 => ?_) (fun q1 => ?_) ?_
        · have : p = 0 ∨ p = 1 := by (clear hk hM hn hnM hb hbl ha hal hp hbp bba kk kk0 q hp2 hpp hph e2h ehh A1 B0 B1 B2 A2 fq fr h1 hM2 ba2 l1 l2 l3 l4 l5 l6 c1 c2 c3 c4 c5 fin hu1 l9 l12 hr1 m2 m3 hu2 l10 l11 l7 hr2 l8; lia)
          rcases this with q | q <;> rw [q] <;> rfl
        · have q1 : p = 1 := by simpa using q1
          rw [q1]
          refine ws_cons (w1_aug (x := "r") (d := .int (r2 / 2 ^ 1)) rfl ev_int (Iop.cast (by rw [fdiv_pos (by decide)]; rfl) (iop_shr (b := 1) (by decide))) ?_ rfl kk)
          exact ws_nil ⟨rfl, rfl, rfl, rfl, trivial⟩
        · have q1 : p = 0 := by
            have : p ≠ 1 := by simpa using q1
            (clear hk hM hn hnM hb hbl ha hal hp hbp bba kk kk0 q hp2 hpp hph e2h ehh A1 B0 B1 B2 A2 fq fr h1 hM2 ba2 l1 l2 l3 l4 l5 l6 c1 c2 c3 c4 c5 fin hu1 l9 l12 hr1 m2 m3 hu2 l10 l11 l7 hr2 l8 q1; lia)
          rw [q1]
          exact ws_nil ⟨by rw [Int.pow_zero, Int.ediv_one]; rfl, rfl, rfl, rfl, trivial⟩
        · refine ws_cons (w1_ret (ev_tuple (evs_cons (Ev.cast (by rw [Int.toNat_natCast, or_low l9 l10 l11]) (ev_bin (ev_bin vl vl (bin_shl (b := (h : Int)) (by (clear hk hM hn hnM hb hbl ha hal hp hbp bba bbb bbn kk kk0 q hpd hp2 hh hpp hph e2h ehh A1 B0 B1 B2 A2 fq fr hM2 ba2 l1 l2 l3 l4 l5 l6 c1 c2 c3 c4 c5 fin hu1 l9 l12 hr1 m2 m3 hu2 l10 l11 l7 hr2 l8; lia)) ?_) kk) vl bin_or kk)) (evs_cons vl evs_nil)) kle) rfl)
          have : intBits u1 ≤ h := bits_of_lt l9 l12
          (clear hk hn hnM hb hbl ha hal hp hbp bba bbb bbn kk kk0 q hpd hp2 hh hpp hph e2h ehh A1 B0 B1 B2 A2 fq fr ba2 l1 l2 l3 l4 l5 l6 c1 c2 c3 c4 c5 fin hu1 l9 l12 hr1 m2 m3 hu2 l10 l11 l7 hr2 l8; lia)

theorem t_div2_base {C : Cx} (pr : Pr C) : Div2 C 2 4000 := by
  intro a b n hn hnM hb hbl ha hal
  have hbp : 0 < b := Int.lt_of_lt_of_le (pow_pos2 (n - 1)) hb
  have bba : intBits a ≤ 2 * n := bits_of_lt ha (by
    have : b * 2 ^ n ≤ 2 ^ n * 2 ^ n := Int.mul_le_mul_of_nonneg_right (by (clear hn hnM hb ha hal hbp; lia)) (Int.le_of_lt (pow_pos2 n))
    rw [show 2 * n = n + n by (clear hn hnM hb hbl ha hal hbp this; lia), Int.pow_add]; (clear hn hnM hb hbl ha hbp; omega))
  have bbn : n ≤ intBits b := le_bits hn hb
  refine does (d := R_div2) (names := ["a", "b", "n"]) pr P_div2.2 rfl (by decide) rfl (fun pm cd doc vs hl => ?_) (by decide) (fun L a' cd A s hid => ?_)
  · obtain ⟨v1, v2, v3, rfl⟩ := len_3 hl; rfl
  · refine ws_cons (w1_if (b := decide ((intBits a : Int) - n ≤ 4000)) (ts_cmp (ev_bin (ev_meth (T := "int") (vl (d := .int a)) evs_nil rfl call_bits kle PySem.F.plainAttrs_int PySem.F.slot_int_bit_length PySem.F.type_int_bit_length) vl bin_sub kle) (ev_glob pr.dl rfl) cmp_le kle) (fun q => ?_) (fun q => ?_))
    · refine ws_cons (w1_ret (d := .tup [.int (a / b), .int (a % b)]) (ev_call_bi (k := 0) pr.divmod bt_divmod (evs_cons vl (evs_cons vl evs_nil)) ?_ (Nat.zero_le _) rfl) rfl)
      rw [← fdiv_pos (Int.le_of_lt hbp), ← fmod_pos (Int.le_of_lt hbp)]
      exact call_divmod (by (clear hn hnM hb hbl ha hal bba bbn q; lia)) (pylong_small (by (clear hb hbl ha hal hbp q; lia)))
    · exact absurd (of_decide_eq_false q) (by (clear hb hbl ha hal hbp bbn q; lia))

theorem t_div2 {C : Cx} (pr : Pr C) (h0 : C.hd = none) : ∀ j : Nat, j ≤ 8 → Div2 C (2 + 2 * j) (4000 * 2 ^ j)
  | 0, _ => t_div2_base pr
  | j + 1, h => by
    have hM : 4000 * 2 ^ j ≤ 1048576 := by
      have : 2 ^ j ≤ 2 ^ 7 := Nat.pow_le_pow_right (by decide) (by lia)
      (clear h; lia)
    have h1 := t_div2 pr h0 j (by (clear hM; lia))
    have h2 := t_div3 pr h0 (by (clear hM; lia)) hM h1
    have h3 := t_div2_step pr h0 (by (clear hM; lia)) hM h2
    rw [show 4000 * 2 ^ (j + 1) = 2 * (4000 * 2 ^ j) by rw [Nat.pow_succ]; (clear h hM; lia)]
    exact h3
end Mine
/-! N8 -/
namespace Mine
open PySem PySem.W PySem.Spec PySem.Calls PyProof.Rows PySem.SeqAt
open Builtin.Int (intBits)

noncomputable abbrev P_d2i : {d : DefRec // defOf pw "_digits2int" = some (d, [])} := ⟨_, rfl⟩
noncomputable abbrev R_d2i : DefRec := P_d2i.1
noncomputable abbrev I_d2i : DefRec := (⟨⟨_, _, _, _, _⟩, _, rfl⟩ : {d : DefRec // ∃ r, R_d2i.body = d.stmt :: r}).1
noncomputable abbrev P_i2d : {d : DefRec // defOf pw "_int2digits" = some (d, [])} := ⟨_, rfl⟩
noncomputable abbrev R_i2d : DefRec := P_i2d.1
noncomputable abbrev I_i2d : DefRec := (⟨⟨_, _, _, _, _⟩, _, _, rfl⟩ : {d : DefRec // ∃ x r, R_i2d.body = x :: d.stmt :: r}).1
structure PrC (C : Cx) : Prop where
  i2d : ∃ a, FnDc C "_int2digits" a (.ref C.ta.c) R_i2d.params R_i2d.body R_i2d.scope
  d2i : ∃ a, FnDc C "_digits2int" a (.ref C.tb.c) R_d2i.params R_d2i.body R_d2i.scope
  ta : C.ta.line = I_i2d.pos.line ∧ C.ta.col = I_i2d.pos.col ∧ C.ta.qual = "_int2digits.<locals>.inner"
  tb : C.tb.line = I_d2i.pos.line ∧ C.tb.col = I_d2i.pos.col ∧ C.tb.qual = "_digits2int.<locals>.inner"

/-! ## `_digits2int` -/
noncomputable def digVal (n : Nat) : List Int → Int
  | [] => 0
  | d :: r => d + 2 ^ n * digVal n r
theorem digVal_append (n : Nat) (a b : List Int) : digVal n (a ++ b) = digVal n a + 2 ^ (n * a.length) * digVal n b := by
  induction a with
  | nil => simp [digVal]
  | cons d r ih =>
    rw [List.cons_append, digVal, digVal, ih, List.length_cons, Nat.mul_succ, Int.pow_add, Int.mul_add]
    rw [← Int.mul_assoc, Int.mul_comm (2 ^ n) (2 ^ (n * r.length))]
    lia
theorem digVal_range {n : Nat} {a : List Int} (h : ∀ d ∈ a, 0 ≤ d ∧ d < 2 ^ n) : 0 ≤ digVal n a ∧ digVal n a < 2 ^ (n * a.length) := by
  induction a with
  | nil => simp [digVal]
  | cons d r ih =>
    have h1 := h d (.head _)
    have ih := ih fun x hx => h x (.tail _ hx)
    rw [digVal, List.length_cons, Nat.mul_succ, Int.pow_add, Int.mul_comm (2 ^ (n * r.length))]
    have hp := pow_pos2 n
    have h2 : 0 ≤ 2 ^ n * digVal n r := Int.mul_nonneg (Int.le_of_lt hp) ih.1
    have h3 : 2 ^ n * (digVal n r + 1) ≤ 2 ^ n * 2 ^ (n * r.length) := Int.mul_le_mul_of_nonneg_left (by (clear h1 hp h2; lia)) (Int.le_of_lt hp)
    rw [Int.mul_add] at h3
    (clear ih hp; omega)

noncomputable abbrev clos3 (x : Str) (cX cI cN : Addr) : List (Str × Addr) := [("n", cN), ("inner", cI), (x, cX)]
structure ScFn (C : Cx) (sc : Heap) (f : Addr) (qual : Str) (I : DefRec) (clos : List (Str × Addr)) : Prop where
  at_ : ∃ fo doc pm ctv c', sc.get? f = some fo ∧ C.off f ∧ fo.data = .func (fnX "inner" qual I.params I.body I.scope clos .none .none doc pm none (.ref c') ctv) ∧ CodeOff C sc c' qual
theorem ScFn.keep {C : Cx} {h h' : Heap} {f : Addr} {qual : Str} {I : DefRec} {clos : List (Str × Addr)} (x : ScFn C h f qual I clos) (k : ∀ b o, C.off b → h.get? b = some o → h'.get? b = some o) : ScFn C h' f qual I clos := by
  obtain ⟨fo, doc, pm, ctv, c', e1, e2, e3, e4⟩ := x.at_
  exact ⟨fo, doc, pm, ctv, c', k _ _ e2 e1, e2, e3, e4.keep k⟩
structure DI (C : Cx) (f cD cI cN : Addr) (ns : List Int) (n : Nat) (hid : Addr → Prop) (s : Shared) : Prop where
  fn : ScFn C s.heap f "_digits2int.<locals>.inner" I_d2i (clos3 "digits" cD cI cN)
  dig : ∃ v, s.heap.IsCell cD (some v) ∧ Rp hid s.heap v (.lst (lI ns))
  inn : s.heap.IsCell cI (some (.ref f))
  num : ∃ t, s.heap.IsCell cN (some (.int n t))
  ne : cD ≠ cI ∧ cI ≠ cN ∧ cD ≠ cN
theorem frm_cell {C : Cx} {F : Fx} {W : Wt} {ρ : Store} {s : Shared} {x : Str} {c : Addr} {d : D} (fr : Frm C F W ρ s) (h : ρ.lookup x = some (.val d)) (hk : F.env.kindOf x ≠ some .local) (hc : F.env.cells.lookup x = some c) : ∃ v, s.heap.IsCell c (some v) ∧ Rp W.hid s.heap v d := by
  obtain ⟨v, e, r⟩ := fr.vals x d h
  rw [Wt.get, if_neg hk] at e
  exact ⟨v, e ▸ fr.cells x c hc, r⟩
theorem di_frm {C : Cx} {F : Fx} {W : Wt} {ρ : Store} {s : Shared} {f cD cI cN : Addr} {ns : List Int} {n : Nat} (fr : Frm C F W ρ s) (hf : ScFn C F.sc f "_digits2int.<locals>.inner" I_d2i (clos3 "digits" cD cI cN))
    (h1 : ρ.lookup (Str.ofString "digits") = some (.val (.lst (lI ns)))) (h2 : ρ.lookup (Str.ofString "inner") = some (.val (.ptr (.ref f)))) (h3 : ρ.lookup (Str.ofString "n") = some (.val (.int n)))
    (k1 : F.env.kindOf "digits" ≠ some .local) (k2 : F.env.kindOf "inner" ≠ some .local) (k3 : F.env.kindOf "n" ≠ some .local)
    (c1 : F.env.cells.lookup (Str.ofString "digits") = some cD) (c2 : F.env.cells.lookup (Str.ofString "inner") = some cI) (c3 : F.env.cells.lookup (Str.ofString "n") = some cN) : DI C f cD cI cN ns n W.hid s where
  fn := hf.keep fr.sc
  dig := frm_cell fr h1 k1 c1
  inn := (frm_cell fr h2 k2 c2).elim fun v q => q.2.ptr_inv ▸ q.1
  num := by
    obtain ⟨v, e, r⟩ := frm_cell fr h3 k3 c3
    obtain ⟨t, rfl⟩ := r.int_inv
    exact ⟨t, e⟩
  ne := ⟨fun q => absurd (fr.cinj _ _ _ c1 (q ▸ c2)) (by decide), fun q => absurd (fr.cinj _ _ _ c2 (q ▸ c3)) (by decide), fun q => absurd (fr.cinj _ _ _ c1 (q ▸ c3)) (by decide)⟩

noncomputable def DCall (C : Cx) (f cD cI cN : Addr) (ns : List Int) (n j : Nat) : Prop := ∀ (L R : Nat), L < R → R ≤ ns.length → R - L ≤ 2 ^ j → ∀ (A : Around) (hid : Addr → Prop) (s : Shared) (vs : List Value) (Q : Value → Shared → Prop) (E : Value → Shared → Prop), Rm C A (j + 2) → Gd C s → Bd hid s → DI C f cD cI cN ns n hid s →
  Rps hid s.heap vs [.int L, .int R] → (∀ v s', Ex C s s' → Rp hid s'.heap v (.int (digVal n ((ns.drop L).take (R - L)))) → Q v s') → wpAny (model C.prog C.w) A (call (.ref f) vs) Q E s

theorem mid_facts {L R : Nat} (h : L + 1 < R) : ((L : Int) + R).fdiv (2 ^ (1 : Int).toNat) = (((L + R) / 2 : Nat) : Int) := by
  rw [fdiv_pos (by decide)]
  show ((L : Int) + R) / 2 = _
  (clear h; lia)
noncomputable abbrev cm3 (x0 : Str) (vX : Value) (f : Addr) (n : Nat) (tN : Tok) : Str → Option Value := fun y => if y = x0 then some vX else if y = "inner" then some (.ref f) else if y = "n" then some (.int n tN) else none
theorem look3 {x0 : Str} {cX cI cN : Addr} {y : Str} {c : Addr} (h : (clos3 x0 cX cI cN).lookup y = some c) : (y = "n" ∧ c = cN) ∨ (y = "inner" ∧ c = cI) ∨ (y = x0 ∧ c = cX) := by
  have := lookup_mem h
  rcases List.mem_cons.mp this with q | q
  · cases q; exact .inl ⟨rfl, rfl⟩
  · rcases List.mem_cons.mp q with q | q
    · cases q; exact .inr (.inl ⟨rfl, rfl⟩)
    · rcases List.mem_cons.mp q with q | q
      · cases q; exact .inr (.inr ⟨rfl, rfl⟩)
      · cases q
theorem cells3 {s : Shared} {x0 : Str} {cX cI cN f : Addr} {vX : Value} {n : Nat} {tN : Tok} (h1 : s.heap.IsCell cX (some vX)) (h2 : s.heap.IsCell cI (some (.ref f))) (h3 : s.heap.IsCell cN (some (.int n tN))) (n1 : x0 ≠ "inner") (n2 : x0 ≠ "n") : ∀ x c, (clos3 x0 cX cI cN).lookup x = some c → s.heap.IsCell c (cm3 x0 vX f n tN x) := by
  intro x c h
  rcases look3 h with ⟨rfl, rfl⟩ | ⟨rfl, rfl⟩ | ⟨rfl, rfl⟩
  · rw [cm3, if_neg (fun q => n2 q.symm), if_neg (by decide), if_pos rfl]; exact h3
  · rw [cm3, if_neg (fun q => n1 q.symm), if_pos rfl]; exact h2
  · rw [cm3, if_pos rfl]; exact h1
theorem inj3 {x0 : Str} {cX cI cN : Addr} (ne : cX ≠ cI ∧ cI ≠ cN ∧ cX ≠ cN) : ∀ x y c, (clos3 x0 cX cI cN).lookup x = some c → (clos3 x0 cX cI cN).lookup y = some c → x = y := by
  intro x y c h h'
  rcases look3 h with ⟨rfl, rfl⟩ | ⟨rfl, rfl⟩ | ⟨rfl, rfl⟩ <;> rcases look3 h' with ⟨rfl, q⟩ | ⟨rfl, q⟩ | ⟨rfl, q⟩ <;> first | rfl | exact absurd q ne.1 | exact absurd q ne.2.1 | exact absurd q ne.2.2 | exact absurd q.symm ne.1 | exact absurd q.symm ne.2.1 | exact absurd q.symm ne.2.2

theorem seg_split (ns : List Int) {L M R : Nat} (h1 : L ≤ M) (h2 : M ≤ R) : (ns.drop L).take (R - L) = (ns.drop L).take (M - L) ++ (ns.drop M).take (R - M) := by
  have e1 : R - L = (M - L) + (R - M) := by grind
  rw [e1, List.take_add, List.drop_drop]
  congr 2
  congr 1
  (clear e1; grind)
theorem store3 {P : Str × Sl → Prop} {a b c : Str × Sl} (ha : P a) (hb : P b) (hc : P c) {x : Str} {sl : Sl} (h : List.lookup x [a, b, c] = some sl) : P (x, sl) := all3 ha hb hc _ (lookup_mem h)
theorem vals3 {Q : Str → D → Prop} {x0 x1 x2 : Str} {sl : Sl} {d1 d2 : D} (h0 : ∀ d, sl = .val d → Q x0 d) (h1 : Q x1 d1) (h2 : Q x2 d2) : ∀ x d, List.lookup x [(x0, sl), (x1, .val d1), (x2, .val d2)] = some (.val d) → Q x d :=
  fun x d h => store3 (P := fun p => ∀ d, p.2 = .val d → Q p.1 d) h0 (fun d q => by cases q; exact h1) (fun d q => by cases q; exact h2) h d rfl
theorem owns3 {Q : Str → List D → Prop} {x0 x1 x2 : Str} {sl : Sl} {d1 d2 : D} (h0 : ∀ d, sl = .own d → Q x0 d) : ∀ x d, List.lookup x [(x0, sl), (x1, .val d1), (x2, .val d2)] = some (.own d) → Q x d :=
  fun x d h => store3 (P := fun p => ∀ d, p.2 = .own d → Q p.1 d) h0 (fun d q => by cases q) (fun d q => by cases q) h d rfl
set_option maxHeartbeats 1000000 in
theorem t_d2i_step {C : Cx} (ok : C.Ok) (h0 : C.hd = none) {f cD cI cN : Addr} {ns : List Int} {n : Nat} (hn : 1 ≤ n) (hr : ∀ d ∈ ns, 0 ≤ d ∧ d < 2 ^ n) (hz : ns.length * n ≤ 1048576) (j : Nat) (ih : ∀ i, j = i + 1 → DCall C f cD cI cN ns n i) : DCall C f cD cI cN ns n j := by
  intro L R h1 h2 h3 A hid s vs Q E rm g bd di r q
  have hlen : ns.length ≤ 1048576 := Nat.le_trans (Nat.le_mul_of_pos_right _ hn) hz
  obtain ⟨fo, doc, pm, ctv, c', e1, e2, e3, e4⟩ := di.fn.at_
  obtain ⟨vD, d1, d2⟩ := di.dig
  obtain ⟨tN, n1⟩ := di.num
  refine clos_call (names := ["L", "R"]) (ds := [.int L, .int R]) (ls := []) (k := j + 1) (cm := cm3 "digits" vD f n tN) (ρc := [("digits", .val (.lst (lI ns))), ("inner", .val (.ptr (.ref f))), ("n", .val (.int n))]) ok g rm bd r e1 e3 e4.code (by decide) rfl ?_ (by decide) ?_ (KK := fun fl zz => fl = .ret (.int (digVal n ((ns.drop L).take (R - L))))) (fun L' => ?_) (fun L' W ρ' fl flow s' f' rf hfl => ?_)
  · intro vs hl
    obtain ⟨v1, v2, rfl⟩ := len_2 hl; rfl
  · exact ⟨cells3 d1 di.inn n1 (by decide) (by decide), inj3 di.ne, vals3 (fun d q => by cases q; exact ⟨by decide, vD, rfl, d2⟩) ⟨by decide, .ref f, rfl, .ptr _⟩ ⟨by decide, .int n tN, rfl, .int _ _⟩, owns3 (fun d q => by cases q), fun x y d e h => (owns3 (Q := fun zz zz => False) (fun d q => by cases q) x d h).elim, allN⟩
  · have kk : 1 ≤ j + 1 := by (clear hn hz h1 h2 h3 hlen; lia)
    show Ws C _ [("L", .val (.int L)), ("R", .val (.int R)), ("digits", .val (.lst (lI ns))), ("inner", .val (.ptr (.ref f))), ("n", .val (.int n))] _ _
    refine ws_cons (w1_if (b := (L : Int) + 1 == R) (ts_cmp (ev_bin vl ev_int bin_add kk) vl cmp_eq kk) (fun hb => ?_) (fun hb => ?_))
    · have hR : R = L + 1 := by have : (L : Int) + 1 = R := by simpa using hb
                                (clear hn hz h1 h2 h3 hlen kk hb; lia)
      refine ws_cons (w1_ret (d := .int (digVal n ((ns.drop L).take (R - L)))) (ev_sub (ev_free (d := .lst (lI ns)) rfl rfl rfl) vl (itm_list (by (clear hn hz h1 h2 h3 hlen kk hb hR; lia)) (by (clear hn hz h1 h3 kk hb; lia)) ?_) trivial kk) rfl)
      have hlt : L < ns.length := by (clear hn hz h1 h3 hlen kk hb; lia)
      rw [Int.toNat_natCast, lI, List.getElem?_map, List.getElem?_eq_getElem hlt, hR, Nat.add_sub_cancel_left, List.take_one, List.head?_drop, List.getElem?_eq_getElem hlt]
      simp [digVal]
    · have hR : L + 1 < R := by have : (L : Int) + 1 ≠ R := by simpa using hb
                                (clear hn hz h2 h3 hlen kk hb; lia)
      cases j with
      | zero => have : (2 : Nat) ^ 0 = 1 := rfl; (clear hn hz h1 h2 hlen hb kk this; omega)
      | succ i =>
        have h2p : (2 : Nat) ^ (i + 1) = 2 * 2 ^ i := by rw [Nat.pow_succ]; (clear hn hz h1 h2 hlen hb hR h3 kk; lia)
        refine ws_nil ?_
        have hm1 : L < (L + R) / 2 := by (clear hn hz h1 h2 hlen hb h3 kk h2p; lia)
        have hm2 : (L + R) / 2 < R := by (clear hn hz h1 h2 hlen hb h3 kk h2p hm1; lia)
        generalize hM : (L + R) / 2 = M at *
        refine ws_cons (w1_assign (d := .int (M : Int)) (Ev.cast (by rw [mid_facts hR, hM]) (ev_bin (ev_bin vl vl bin_add kk) ev_int (bin_shr (b := 1) (by decide)) kk)) ?_ rfl)
        refine ws_cons (w1_assign (d := .int (((M - L) * n : Nat) : Int)) (Ev.cast (b := .int (((M : Int) - L) * n)) (by congr 1; rw [Int.natCast_mul]; congr 1; (clear hn hz h1 h2 hlen hb hR h3 kk h2p hM hm2; lia)) (ev_bin (ev_bin vl vl bin_sub kk) (ev_free (d := .int n) rfl rfl rfl) (bin_mul (.of_left ?_)) kk)) ?_ rfl)
        · exact bits_of_lt (by (clear hn hz h1 h2 hlen hb hR h3 kk h2p hM hm2; lia)) (by (clear hn hz h1 hb hR h3 kk h2p hm1 hm2; lia))
        have sc3 : ∀ {F ρ}, F.env = callEnv (fnX "inner" "_digits2int.<locals>.inner" I_d2i.params I_d2i.body I_d2i.scope (clos3 "digits" cD cI cN) .none .none doc pm none (.ref c') ctv) L' f → F.sc = s.heap → Sub [("digits", .val (.lst (lI ns))), ("inner", .val (.ptr (.ref f))), ("n", .val (.int n))] ρ → ∀ W s', Frm C F W ρ s' → DI C f cD cI cN ns n W.hid s' := by
          intro F ρ he hs hS W s' fr
          refine di_frm fr ?_ (hS.get rfl) (hS.get rfl) (hS.get rfl) ?_ ?_ ?_ ?_ ?_ ?_
          · rw [hs]
            exact ⟨fo, doc, pm, ctv, c', e1, e2, e3, e4⟩
          all_goals rw [he]
          · exact nofun
          · exact nofun
          · exact nofun
          · rfl
          · rfl
          · rfl
        have vals : ∀ {F ρ} (x y : Nat) (ex ey : Expr) (np pos : Pos), F.env = callEnv (fnX "inner" "_digits2int.<locals>.inner" I_d2i.params I_d2i.body I_d2i.scope (clos3 "digits" cD cI cN) .none .none doc pm none (.ref c') ctv) L' f → F.sc = s.heap → F.k = i + 1 + 1 → Sub [("digits", .val (.lst (lI ns))), ("inner", .val (.ptr (.ref f))), ("n", .val (.int n))] ρ → Evs C F ρ pos [ex, ey] [.int x, .int y] → x < y → y ≤ ns.length → y - x ≤ 2 ^ i →
            Ev C F ρ (.Call (.Name "inner" np) [ex, ey] [] pos) (.int (digVal n ((ns.drop x).take (y - x)))) := by
          intro F ρ x y ex ey np pos he hs hk hS hE hxy hyl hyx
          refine ev_call_ptr (f := f) (ev_free (c := cI) (hS.get rfl) (by rw [he]; rfl) (by rw [he]; rfl)) (fun W s' fr => ?_) hE fun W s' vs Q E fr r q => ?_
          · obtain ⟨fo, _, _, _, _, e1, _, e3, _⟩ := (sc3 he hs hS W s' fr).fn.at_
            exact ⟨fo, _, e1, e3⟩
          · exact ih i rfl x y hxy hyl hyx F.A W.hid s' vs Q E (by have := fr.rm; rw [hk] at this; exact this) fr.gd fr.bd (sc3 he hs hS W s' fr) r q
        have hdr : ∀ d ∈ (ns.drop M).take (R - M), 0 ≤ d ∧ d < 2 ^ n := fun d hd => hr d (List.mem_of_mem_drop (List.mem_of_mem_take hd))
        have hrange := digVal_range hdr
        have hl1 : ((ns.drop M).take (R - M)).length = R - M := by rw [List.length_take, List.length_drop]; (clear hn hz h1 hlen hb hR h3 kk h2p hM hm1 hrange; grind)
        have hl2 : ((ns.drop L).take (M - L)).length = M - L := by rw [List.length_take, List.length_drop]; (clear hn hz h1 hlen hb hR h3 kk h2p hm2 hrange hl1; grind)
        refine ws_cons (w1_ret (d := .int (digVal n ((ns.drop L).take (R - L)))) (Ev.cast (b := .int (digVal n ((ns.drop M).take (R - M)) * 2 ^ (((M - L) * n : Nat) : Int).toNat + digVal n ((ns.drop L).take (M - L)))) ?_ (ev_bin (ev_bin (vals M R _ _ _ _ rfl rfl rfl ⟨rfl, rfl, rfl, trivial⟩ (evs_cons vl (evs_cons vl evs_nil)) hm2 h2 (by (clear hn hz h1 h2 hlen hb kk h2p hrange hl1 hl2; grind))) vl (bin_shl (by (clear hn hz h1 h2 hlen hb hR h3 kk h2p hM hm1 hm2 hrange hl1 hl2; lia)) ?_) kk) (vals L M _ _ _ _ rfl rfl rfl ⟨rfl, rfl, rfl, trivial⟩ (evs_cons vl (evs_cons vl evs_nil)) hm1 (by (clear hn hz h1 hlen hb hR h3 kk h2p hM hm1 hrange hl1 hl2; lia)) (by (clear hn hz h1 h2 hlen hb kk h2p hrange hl1 hl2; grind))) bin_add kk)) rfl)
        · rw [seg_split ns (Nat.le_of_lt hm1) (Nat.le_of_lt hm2), digVal_append, hl2, Int.toNat_natCast, Nat.mul_comm (M - L) n, Int.mul_comm]
          congr 1
          (clear hn hz h1 h2 hlen hb hR h3 kk h2p hM hm1 hm2 hrange hl1 hl2; lia)
        · have b1 : intBits (digVal n ((ns.drop M).take (R - M))) ≤ n * (R - M) := bits_of_lt hrange.1 (by have := hrange.2; rw [hl1] at this; exact this)
          have b2 : n * (R - M) + (M - L) * n = (R - L) * n := by rw [Nat.mul_comm n, ← Nat.add_mul]; congr 1; (clear hn hz h1 h2 hlen hb h3 kk h2p hM hrange hl1 hl2 b1; grind)
          have b3 : (R - L) * n ≤ ns.length * n := Nat.mul_le_mul_right _ (by (clear hn hz h1 hlen hb h3 kk h2p hM hrange hl1 hl2 b1 b2; grind))
          (clear hn h1 h2 hlen hb hR h3 kk h2p hM hm1 hm2 hrange hl1 hl2; omega)
  · rw [hfl] at rf
    obtain ⟨v, hv, rr⟩ := rf.of_ret
    rw [hv]
    exact q _ _ ⟨f'.gd, f'.sc, f'.gens⟩ (rr.less fun b q => f'.hH b ⟨q, List.not_mem_nil⟩)

theorem t_d2i_all {C : Cx} (ok : C.Ok) (h0 : C.hd = none) {f cD cI cN : Addr} {ns : List Int} {n : Nat} (hn : 1 ≤ n) (hr : ∀ d ∈ ns, 0 ≤ d ∧ d < 2 ^ n) (hz : ns.length * n ≤ 1048576) : ∀ j, DCall C f cD cI cN ns n j
  | 0 => t_d2i_step ok h0 hn hr hz 0 (fun i q => by cases q)
  | j + 1 => t_d2i_step ok h0 hn hr hz (j + 1) (fun i q => by cases q; exact t_d2i_all ok h0 hn hr hz j)

set_option maxHeartbeats 1000000 in
theorem t_d2i {C : Cx} (pr : Pr C) (pc : PrC C) {ns : List Int} (h0 : ns ≠ [] → C.hd = none) {n : Nat} (hn : 1 ≤ n) (hr : ∀ d ∈ ns, 0 ≤ d ∧ d < 2 ^ n) (hz : ns.length * n ≤ 1048576) : Does C "_digits2int" 24 [.lst (lI ns), .int n] (.int (digVal n ns)) := by
  have hlen : ns.length ≤ 1048576 := Nat.le_trans (Nat.le_mul_of_pos_right _ hn) hz
  obtain ⟨a, hf⟩ := pc.d2i
  obtain ⟨fd, h1⟩ := hf.fn
  refine ⟨a, fd, h1, call_fnc (names := ["digits", "n"]) pr.ok hf (by decide) rfl ?_ ?_ fun L A s hid => ?_⟩
  · intro pm doc vs hl
    obtain ⟨v1, v2, rfl⟩ := len_2 hl; rfl
  · intro x hx L
    rcases List.mem_cons.mp hx with rfl | hx
    · exact .inr ⟨rfl, rfl⟩
    · rcases List.mem_cons.mp hx with rfl | hx
      · exact .inr ⟨rfl, rfl⟩
      · cases hx
  · refine ws_def (t := C.tb) (clos := clos3 "digits" (L + 1) (L + 1 + 1 + 1) (L + 1 + 1)) (c := L + 1 + 1 + 1) (.inr rfl) rfl pc.tb.2.2 rfl ⟨pc.tb.1, pc.tb.2.1⟩ rfl rfl rfl rfl rfl rfl rfl rfl fun sc' f fo doc pm ctv c' e1 e2 e3 e4 => ?_
    refine ws_cons (w1_ret (ev_if (b := !(lI ns).isEmpty) (ts_val (ev_cell (c := L + 1) (d := .lst (lI ns)) rfl rfl rfl) rfl (by show ((lI ns).length : Int) < 2 ^ 63; rw [ints_len]; (clear hn hz; lia))) (fun hb => ?_) (fun hb => ?_)) rfl)
    · have hpos : 0 < ns.length := by
        cases ns with
        | nil => cases hb
        | cons _ _ => exact Nat.succ_pos _
      refine Ev.cast (b := .int (digVal n ((ns.drop 0).take (ns.length - 0)))) (by rw [List.drop_zero, Nat.sub_zero, List.take_length]) ?_
      refine ev_call_ptr (f := f) (ev_cell (c := L + 1 + 1 + 1) rfl rfl rfl) (fun W s' fr => ⟨fo, _, fr.sc f fo e2 e1, e3⟩) (evs_cons (d := .int ((0 : Nat) : Int)) ev_int (evs_cons (d := .int (ns.length : Int)) (Ev.cast (by rw [ints_len]) (ev_call_bi pr.len bt_len (evs_cons (ev_cell (c := L + 1) rfl rfl rfl) evs_nil) (call_len_lst (ds := lI ns) (by rw [ints_len]; (clear hn hz hb; lia))) (Nat.zero_le _) rfl)) evs_nil)) fun W s' vs Q E fr r q => ?_
      exact t_d2i_all pr.ok (h0 (by intro q; rw [q] at hpos; cases hpos)) hn hr hz 20 0 ns.length hpos (Nat.le_refl _) (by (clear hn hz hb; omega)) _ W.hid s' vs Q E (fr.rm.mono kle) fr.gd fr.bd (di_frm fr ⟨fo, doc, pm, ctv, c', e1, e2, e3, e4⟩ rfl rfl rfl nofun nofun nofun rfl rfl rfl) r q
    · have : ns = [] := by
        cases ns with
        | nil => rfl
        | cons _ _ => cases hb
      subst this
      exact ev_int
end Mine
/-! N9 -/
namespace Mine
open PySem PySem.W PySem.Spec PySem.Calls PyProof.Rows PySem.SeqAt
open Builtin.Int (intBits)

/-! ## `_int2digits` -/
noncomputable def digitsOf (n : Nat) : Int → Nat → List Int
  | _, 0 => []
  | x, m + 1 => x % 2 ^ n :: digitsOf n (x / 2 ^ n) m
theorem digitsOf_len (n : Nat) : ∀ (m : Nat) (x : Int), (digitsOf n x m).length = m
  | 0, _ => rfl
  | m + 1, x => by rw [digitsOf, List.length_cons, digitsOf_len n m]
theorem digitsOf_split (n : Nat) : ∀ (a b : Nat) (x : Int), 0 ≤ x → digitsOf n x (a + b) = digitsOf n (x % 2 ^ (a * n)) a ++ digitsOf n (x / 2 ^ (a * n)) b
  | 0, b, x, h => by simp [digitsOf]
  | a + 1, b, x, h => by
    have hp := pow_pos2 n
    have hpa := pow_pos2 (a * n)
    rw [show a + 1 + b = (a + b) + 1 by (clear h hp hpa; lia), digitsOf, digitsOf, List.cons_append, digitsOf_split n a b (x / 2 ^ n) (Int.ediv_nonneg h (Int.le_of_lt hp))]
    have e0 : (a + 1) * n = n + a * n := by rw [Nat.succ_mul, Nat.add_comm]
    have e1 : x % 2 ^ ((a + 1) * n) % 2 ^ n = x % 2 ^ n := by
      rw [e0, Int.pow_add, Int.emod_emod_of_dvd _ (Int.dvd_mul_right _ _)]
    have e2 : x / 2 ^ ((a + 1) * n) = x / 2 ^ n / 2 ^ (a * n) := by
      rw [e0, Int.pow_add, Int.ediv_ediv, if_neg (fun q => absurd q.1 (by (clear h hpa e0 e1; lia))), Int.sub_zero]
    have e3 : x % 2 ^ ((a + 1) * n) / 2 ^ n = x / 2 ^ n % 2 ^ (a * n) := by
      have m1 := Int.mul_ediv_add_emod x (2 ^ ((a + 1) * n))
      have m2 := Int.mul_ediv_add_emod (x / 2 ^ n) (2 ^ (a * n))
      have m3 := Int.mul_ediv_add_emod x (2 ^ n)
      have m4 := Int.emod_nonneg x (Int.ne_of_gt hp)
      have m5 := Int.emod_lt_of_pos x hp
      rw [← e2] at m2
      have : x % 2 ^ ((a + 1) * n) = (x / 2 ^ n % 2 ^ (a * n)) * 2 ^ n + x % 2 ^ n := by
        have t1 : x = 2 ^ n * (2 ^ (a * n) * (x / 2 ^ ((a + 1) * n)) + x / 2 ^ n % 2 ^ (a * n)) + x % 2 ^ n := by rw [m2]; exact m3.symm
        rw [Int.mul_add, ← Int.mul_assoc, ← Int.pow_add, ← e0] at t1
        rw [Int.mul_comm (x / 2 ^ n % 2 ^ (a * n))]
        (clear h hp hpa e0 e1 e2 m2 m4 m5; lia)
      exact (div_unique this m4 m5).1
    rw [e1, e2, e3]
theorem digitsOf_range {n : Nat} : ∀ {m : Nat} {x : Int}, ∀ d ∈ digitsOf n x m, 0 ≤ d ∧ d < 2 ^ n
  | 0, _, d, h => by cases h
  | m + 1, x, d, h => by
    have hp := pow_pos2 n
    rcases List.mem_cons.mp h with rfl | h
    · exact ⟨Int.emod_nonneg _ (Int.ne_of_gt hp), Int.emod_lt_of_pos _ hp⟩
    · exact digitsOf_range d h
theorem digVal_digits (n : Nat) : ∀ (m : Nat) (x : Int), 0 ≤ x → x < 2 ^ (n * m) → digVal n (digitsOf n x m) = x
  | 0, x, h0, h => by simp at h; simp [digitsOf, digVal]; lia
  | m + 1, x, h0, h => by
    have hp := pow_pos2 n
    rw [digitsOf, digVal, digVal_digits n m (x / 2 ^ n) (Int.ediv_nonneg h0 (Int.le_of_lt hp)) (Int.ediv_lt_of_lt_mul hp (by rw [← Int.pow_add]; rw [Nat.mul_succ] at h; exact h))]
    have := Int.mul_ediv_add_emod x (2 ^ n)
    (clear h0 h hp; lia)
noncomputable def splice (n : Nat) (ns : List Int) (L R : Nat) (x : Int) : List Int := ns.take L ++ digitsOf n x (R - L) ++ ns.drop R

structure II (C : Cx) (f cX cI cN l : Addr) (n : Nat) (hid : Addr → Prop) (s : Shared) : Prop where
  fn : ScFn C s.heap f "_int2digits.<locals>.inner" I_i2d (clos3 "a_digits" cX cI cN)
  cel : s.heap.IsCell cX (some (.ref l))
  inn : s.heap.IsCell cI (some (.ref f))
  num : ∃ t, s.heap.IsCell cN (some (.int n t))
  ne : cX ≠ cI ∧ cI ≠ cN ∧ cX ≠ cN
  hl : hid l
  gh : C.gh.get? l = none

theorem ii_frm {C : Cx} {F : Fx} {W : Wt} {ρ : Store} {s : Shared} {f cX cI cN : Addr} {ns : List Int} {n : Nat} (fr : Frm C F W ρ s) (hf : ScFn C F.sc f "_int2digits.<locals>.inner" I_i2d (clos3 "a_digits" cX cI cN))
    (h1 : ρ.lookup (Str.ofString "a_digits") = some (.own (lI ns))) (h2 : ρ.lookup (Str.ofString "inner") = some (.val (.ptr (.ref f)))) (h3 : ρ.lookup (Str.ofString "n") = some (.val (.int n)))
    (k1 : F.env.kindOf "a_digits" ≠ some .local) (k2 : F.env.kindOf "inner" ≠ some .local) (k3 : F.env.kindOf "n" ≠ some .local)
    (c1 : F.env.cells.lookup (Str.ofString "a_digits") = some cX) (c2 : F.env.cells.lookup (Str.ofString "inner") = some cI) (c3 : F.env.cells.lookup (Str.ofString "n") = some cN) :
    ∃ l us k, II C f cX cI cN l n W.hid s ∧ W.get F.env (Str.ofString "a_digits") = some (.ref l) ∧ s.heap.get? l = some ({ cls := .type "list", data := .seq us k } : Obj) ∧ Rps W.hid s.heap us.toList (lI ns) := by
  obtain ⟨v, e, l, us, k, q1, q2, q3, q4, q5, _⟩ := fr.owns _ _ h1
  rw [q1] at e
  refine ⟨l, us, k, ⟨hf.keep fr.sc, ?_, ?_, ?_, ?_, q4, fr.free q5⟩, e, q2, q3⟩
  · have e' := e
    rw [Wt.get, if_neg k1] at e'
    exact e' ▸ fr.cells _ cX c1
  · obtain ⟨v, e, r⟩ := frm_cell fr h2 k2 c2
    cases r.ptr_inv; exact e
  · obtain ⟨v, e, r⟩ := frm_cell fr h3 k3 c3
    obtain ⟨t, rfl⟩ := r.int_inv; exact ⟨t, e⟩
  · exact ⟨fun q => absurd (fr.cinj _ _ _ c1 (q ▸ c2)) (by decide), fun q => absurd (fr.cinj _ _ _ c2 (q ▸ c3)) (by decide), fun q => absurd (fr.cinj _ _ _ c1 (q ▸ c3)) (by decide)⟩

noncomputable def ICall (C : Cx) (f cX cI cN : Addr) (n len j : Nat) : Prop := ∀ (l : Addr) (L R : Nat) (x : Int) (ns : List Int), L < R → R ≤ ns.length → ns.length = len → R - L ≤ 2 ^ j → 0 ≤ x → x < 2 ^ (n * (R - L)) → ∀ (A : Around) (hid : Addr → Prop) (s : Shared) (us : Array Value) (k : Nat) (vs : List Value) (Q : Value → Shared → Prop) (E : Value → Shared → Prop),
  Rm C A (j + 2) → Gd C s → Bd hid s → II C f cX cI cN l n hid s → s.heap.get? l = some ({ cls := .type "list", data := .seq us k } : Obj) → Rps hid s.heap us.toList (lI ns) → Rps hid s.heap vs [.int x, .int L, .int R] →
  (∀ s' us' k', Gd C s' → (∀ b o, b ≠ l → C.off b → s.heap.get? b = some o → s'.heap.get? b = some o) → (∀ (i : Nat) (y : GenState), s.gens[i]? = some y → s'.gens[i]? = some y) → s'.heap.get? l = some ({ cls := .type "list", data := .seq us' k' } : Obj) → Rps hid s'.heap us'.toList (lI (splice n ns L R x)) → Q .none s') → wpAny (model C.prog C.w) A (call (.ref f) vs) Q E s

/-- the statement that calls it -/
theorem w1_icall {C : Cx} {F : Fx} {ρ : Store} {K : Fl → Store → Prop} {f cX cI cN : Addr} {n len j L R : Nat} {x : Int} {ns : List Int} {es : List Expr} {np cpos pos : Pos} (hI : ICall C f cX cI cN n len j) (hj : j + 2 ≤ F.k) (hf : ScFn C F.sc f "_int2digits.<locals>.inner" I_i2d (clos3 "a_digits" cX cI cN))
    (h1 : ρ.lookup (Str.ofString "a_digits") = some (.own (lI ns))) (h2 : ρ.lookup (Str.ofString "inner") = some (.val (.ptr (.ref f)))) (h3 : ρ.lookup (Str.ofString "n") = some (.val (.int n)))
    (k1 : F.env.kindOf "a_digits" ≠ some .local) (k2 : F.env.kindOf "inner" ≠ some .local) (k3 : F.env.kindOf "n" ≠ some .local)
    (c1 : F.env.cells.lookup (Str.ofString "a_digits") = some cX) (c2 : F.env.cells.lookup (Str.ofString "inner") = some cI) (c3 : F.env.cells.lookup (Str.ofString "n") = some cN)
    (hv : Ev C F ρ (.Name (Str.ofString "inner") np) (.ptr (.ref f))) (hE : Evs C F ρ cpos es [.int x, .int L, .int R]) (b1 : L < R) (b2 : R ≤ ns.length) (b3 : ns.length = len) (b4 : R - L ≤ 2 ^ j) (b5 : 0 ≤ x) (b6 : x < 2 ^ (n * (R - L)))
    (h : K .next (("a_digits", .own (lI (splice n ns L R x))) :: ρ)) (hi : interactive F.env = false) (hs : swapsWith (.Call (.Name (Str.ofString "inner") np) es [] cpos) none pos.line F.env = pure false) :
    W1 C F ρ (.Expr (.Call (.Name (Str.ofString "inner") np) es [] cpos) pos) K := .mk fun W s fr =>
  wpAny_Expr_any (wpAny_Call_NameR (hv.go W s _ _ fr fun v s₀ x₀ r => by
    cases r.ptr_inv
    have fr₀ := fr.ex x₀
    obtain ⟨fo, doc, pm, ctv, c', e1, e2, e3, e4⟩ := (hf.keep fr₀.sc).at_
    exact Calls.callWith_function (o := fo) (evs_args hE fr₀ fun vs s₁ y r => by
      have fr₁ := fr₀.ex y
      refine ⟨⟨y.keep _ _ e2 e1, e3⟩, ?_⟩
      show wpAny _ _ (call (.ref f) ([] ++ vs) []) _ _ s₁
      rw [List.nil_append]
      obtain ⟨l, us, k, g1, g2, g3, g4⟩ := ii_frm fr₁ hf h1 h2 h3 k1 k2 k3 c1 c2 c3
      exact hI l L R x ns b1 b2 b3 b4 b5 b6 F.A W.hid s₁ us k vs _ _ (fr.rm.mono hj) fr₁.gd fr₁.bd g1 g3 g4 r fun s' us' k' p1 p2 p3 p4 p5 =>
        ⟨W, _, .next, fr₁.ownset2 h1 g2 p1 p2 p3 p4 p5, .next, h⟩))) hi hs

theorem splice_len {n : Nat} {ns : List Int} {L R : Nat} {x : Int} (h1 : L ≤ R) (h2 : R ≤ ns.length) : (splice n ns L R x).length = ns.length := by
  unfold splice
  rw [List.length_append, List.length_append, List.length_take, digitsOf_len, List.length_drop]
  grind
theorem splice_leaf {n : Nat} {ns : List Int} {L : Nat} {x : Int} (h0 : 0 ≤ x) (hx : x < 2 ^ n) (h : L < ns.length) : splice n ns L (L + 1) x = ns.set L x := by
  unfold splice
  rw [Nat.add_sub_cancel_left, digitsOf, digitsOf, Int.emod_eq_of_lt h0 hx, List.set_eq_take_append_cons_drop, if_pos h]
  simp
theorem splice_two {n : Nat} {ns : List Int} {L M R : Nat} {x : Int} (h0 : 0 ≤ x) (h1 : L ≤ M) (h2 : M ≤ R) (h3 : R ≤ ns.length) :
    splice n (splice n ns L M (x % 2 ^ ((M - L) * n))) M R (x / 2 ^ ((M - L) * n)) = splice n ns L R x := by
  have hl : (ns.take L ++ digitsOf n (x % 2 ^ ((M - L) * n)) (M - L)).length = M := by
    rw [List.length_append, List.length_take, digitsOf_len]; (clear h0; lia)
  unfold splice
  rw [show R - L = (M - L) + (R - M) by (clear h0 h3; grind), digitsOf_split n _ _ x h0, List.take_left' hl]
  rw [show R = M + (R - M) by (clear h0 h1 h3; grind), ← List.drop_drop, List.drop_left' hl, List.drop_drop]
  rw [show M + (R - M) = R by (clear h0 h1 h3; grind)]
  simp only [List.append_assoc]

noncomputable def FlowVal (Q : Value → Prop) (flow : Flow) : Prop := Q (match flow with | .ret v => v | _ => .none)
theorem flow_none {hid : Addr → Prop} {h : Heap} {flow : Flow} {fl : Fl} (rf : FlR hid h flow fl) (hf : fl = .next ∨ fl = .ret .none) (Q : Value → Prop) (q : Q .none) : FlowVal Q flow := by
  rcases hf with h | h
  · rw [h] at rf
    have e := rf.of_next
    subst e
    exact q
  · rw [h] at rf
    obtain ⟨v, hv, rr⟩ := rf.of_ret
    subst hv
    exact rr.none_inv ▸ q
theorem w1_ret_none {C : Cx} {F : Fx} {ρ : Store} {K : Fl → Store → Prop} {p : Pos} (h : K (.ret .none) ρ) : W1 C F ρ (.Return none p) K := .mk fun W s f =>
  wpAny_Return_none ⟨W, ρ, _, f, .ret .none, h⟩

theorem cell_inj {h : Heap} {c : Addr} {a b : Option Value} (x : h.IsCell c a) (y : h.IsCell c b) : a = b := by
  obtain ⟨o, e, d⟩ := x
  obtain ⟨o', e', d'⟩ := y
  rw [e] at e'
  rw [Option.some.inj e', d'] at d
  exact (Data.cell.inj d).symm
set_option maxHeartbeats 2000000 in
theorem t_i2d_step {C : Cx} (ok : C.Ok) (h0 : C.hd = none) {f cX cI cN : Addr} {n len : Nat} (hn : 1 ≤ n) (hz : len * n ≤ 1048576) (j : Nat) (ih : ∀ i, j = i + 1 → ICall C f cX cI cN n len i) : ICall C f cX cI cN n len j := by
  intro l L R x ns h1 h2 hlen0 h3 hx0 hx1 A hid s us k vs Q E rm g bd di el rl r q
  have hlen : len ≤ 1048576 := Nat.le_trans (Nat.le_mul_of_pos_right _ hn) hz
  obtain ⟨fo, doc, pm, ctv, c', e1, e2, e3, e4⟩ := di.fn.at_
  obtain ⟨tN, n1⟩ := di.num
  refine clos_call (names := ["x", "L", "R"]) (ds := [.int x, .int L, .int R]) (ls := [l]) (k := j + 1) (cm := cm3 "a_digits" (.ref l) f n tN) (ρc := [("a_digits", .own (lI ns)), ("inner", .val (.ptr (.ref f))), ("n", .val (.int n))]) ok g rm bd r e1 e3 e4.code (by decide) rfl ?_ (by decide) ?_ (KK := fun fl ρ' => (fl = .next ∨ fl = .ret .none) ∧ ρ'.lookup (Str.ofString "a_digits") = some (.own (lI (splice n ns L R x)))) (fun L' => ?_) (fun L' W ρ' fl flow s' f' rf hfl => ?_)
  · intro vs hl
    obtain ⟨v1, v2, v3, rfl⟩ := len_3 hl; rfl
  · exact ⟨cells3 di.cel di.inn n1 (by decide) (by decide), inj3 di.ne, vals3 (fun d q => by cases q) ⟨by decide, .ref f, rfl, .ptr _⟩ ⟨by decide, .int n tN, rfl, .int _ _⟩, owns3 (fun d q => by cases q; exact ⟨by decide, l, us, k, rfl, .head _, el, rl, di.hl⟩),
      fun x y d e hx hy => (owns3 (Q := fun x zz => x = Str.ofString "a_digits") (fun zz zz => rfl) x d hx).trans (owns3 (Q := fun x zz => x = Str.ofString "a_digits") (fun zz zz => rfl) y e hy).symm, all1 di.gh⟩
  · have kk : 1 ≤ j + 1 := by (clear hn hz h1 h2 hlen0 h3 hx0 hx1 hlen; lia)
    show Ws C _ [("x", .val (.int x)), ("L", .val (.int L)), ("R", .val (.int R)), ("a_digits", .own (lI ns)), ("inner", .val (.ptr (.ref f))), ("n", .val (.int n))] _ _
    refine ws_cons (w1_if (b := (L : Int) + 1 == R) (ts_cmp (ev_bin vl ev_int bin_add kk) vl cmp_eq kk) (fun hb => ?_) (fun hb => ?_))
    · have hR : R = L + 1 := by have : (L : Int) + 1 = R := by simpa using hb
                                (clear hn hz h1 h2 hlen0 h3 hx0 hx1 hlen kk hb; lia)
      subst hR
      rw [Nat.add_sub_cancel_left, Nat.mul_one] at hx1
      refine ws_cons (w1_setitem_c (x := "a_digits") (c := cX) rfl (.inr rfl) rfl vl vl (by (clear hn hz hlen0 hx0 hlen kk h1 h2 h3 hx1 hb; lia)) (by (clear hn hz hx0 kk h1 h3 hx1 hb; lia)) (by rw [ints_len]; (clear hn hz hx0 hlen kk h1 h3 hx1 hb; lia)) ?_)
      refine ws_cons (w1_ret_none ⟨.inr rfl, ?_⟩)
      rw [splice_leaf hx0 hx1 (by (clear hn hz hx0 hlen kk h1 h3 hx1 hb; lia)), lI_set, Int.toNat_natCast]
      rfl
    · have hR : L + 1 < R := by have : (L : Int) + 1 ≠ R := by simpa using hb
                                (clear hn hz h2 hlen0 h3 hx0 hx1 hlen kk hb; lia)
      cases j with
      | zero => have : (2 : Nat) ^ 0 = 1 := rfl; (clear hn hz h1 h2 hlen0 hx0 hx1 hlen hb kk this; omega)
      | succ i =>
        have h2p : (2 : Nat) ^ (i + 1) = 2 * 2 ^ i := by rw [Nat.pow_succ]; (clear hn hz h1 h2 hlen0 hx0 hx1 hlen hb hR h3 kk; lia)
        refine ws_nil ?_
        have hm1 : L < (L + R) / 2 := by (clear hn hz h1 h2 hlen0 hx0 hx1 hlen hb h3 kk h2p; lia)
        have hm2 : (L + R) / 2 < R := by (clear hn hz h1 h2 hlen0 hx0 hx1 hlen hb hR h3 kk h2p; lia)
        have hm3 : (L + R) / 2 - L ≤ 2 ^ i := by (clear hn hz h1 h2 hlen0 hx0 hx1 hlen hb kk h2p hm2; grind)
        have hm4 : R - (L + R) / 2 ≤ 2 ^ i := by (clear hn hz h1 h2 hlen0 hx0 hx1 hlen hb kk h2p hm3; grind)
        refine ws_cons (w1_assign (d := .int (((L + R) / 2 : Nat) : Int)) (Ev.cast (by rw [mid_facts hR]) (ev_bin (ev_bin vl vl bin_add kk) ev_int (bin_shr (b := 1) (by decide)) kk)) ?_ rfl)
        generalize (L + R) / 2 = M at *
        refine ws_cons (w1_assign (d := .int (((M - L) * n : Nat) : Int)) (Ev.cast (b := .int (((M : Int) - L) * n)) (by congr 1; rw [Int.natCast_mul]; congr 1; (clear hn hz h1 h2 hlen0 hx0 hx1 hlen hb hR h3 kk h2p hm3 hm4; lia)) (ev_bin (ev_bin vl vl bin_sub kk) (ev_free (d := .int n) rfl rfl rfl) (bin_mul (.of_left ?_)) kk)) ?_ rfl)
        · exact bits_of_lt (by (clear hn hz h1 h2 hlen0 hx0 hx1 hlen hb hR h3 kk h2p hm2 hm3 hm4; lia)) (by (clear hn hz h1 hx0 hx1 hb hR h3 kk h2p hm1 hm3 hm4; lia))
        have ps := pow_pos2 ((M - L) * n)
        have u0 : 0 ≤ x / 2 ^ ((M - L) * n) := Int.ediv_nonneg hx0 (Int.le_of_lt ps)
        have eRL : n * (R - L) = (M - L) * n + n * (R - M) := by rw [Nat.mul_comm (M - L) n, ← Nat.mul_add]; congr 1; (clear hn hz h1 h2 hlen0 hx0 hx1 hlen hb h3 kk h2p hm3 hm4 ps u0; grind)
        have u1 : x / 2 ^ ((M - L) * n) < 2 ^ (n * (R - M)) := Int.ediv_lt_of_lt_mul ps (by rw [← Int.pow_add, Nat.add_comm, ← eRL]; exact hx1)
        have w0 : 0 ≤ x % 2 ^ ((M - L) * n) := Int.emod_nonneg _ (Int.ne_of_gt ps)
        have w1 : x % 2 ^ ((M - L) * n) < 2 ^ (n * (M - L)) := by rw [Nat.mul_comm n]; exact Int.emod_lt_of_pos _ ps
        have bu : intBits (x / 2 ^ ((M - L) * n)) ≤ n * (R - M) := bits_of_lt u0 u1
        have b3 : n * (R - L) ≤ len * n := by rw [Nat.mul_comm]; exact Nat.mul_le_mul_right _ (by (clear hn hz h1 hx0 hx1 hlen hb h3 kk h2p hm3 hm4 ps u0 eRL u1 w0 w1 bu; grind))
        refine ws_cons (w1_assign (d := .int (x / 2 ^ ((M - L) * n))) (Ev.cast (by rw [Int.toNat_natCast, fdiv_pos (Int.le_of_lt ps)]) (ev_bin vl vl (bin_shr (b := (((M - L) * n : Nat) : Int)) (by (clear hn hz h1 h2 hlen0 hx0 hx1 hlen hb hR h3 kk h2p hm1 hm2 hm3 hm4 ps u0 eRL u1 w0 w1 bu b3; lia))) kk)) ?_ rfl)
        refine ws_cons (w1_assign (d := .int (x % 2 ^ ((M - L) * n))) (Ev.cast (by rw [Int.toNat_natCast, xor_high hx0]) (ev_bin vl (ev_bin vl vl (bin_shl (b := (((M - L) * n : Nat) : Int)) (by (clear hn hz h1 h2 hlen0 hx0 hx1 hlen hb hR h3 kk h2p hm1 hm2 hm3 hm4 ps u0 eRL u1 w0 w1 bu b3; lia)) (by (clear hn h1 h2 hlen0 hx0 hx1 hlen hb hR h3 kk h2p hm1 hm2 hm3 hm4 ps u0 u1 w0 w1; omega))) kk) bin_xor kk)) ?_ rfl)
        have hsf : ScFn C (hideAll s.heap [l]) f "_int2digits.<locals>.inner" I_i2d (clos3 "a_digits" cX cI cN) := by
          have nl : ∀ b o, s.heap.get? b = some o → (∀ vs n, o.data ≠ .seq vs n) → b ∉ [l] := fun b o e n => nm1 fun q => n us k (by rw [q, el] at e; rw [← Option.some.inj e])
          obtain ⟨c₂, o, vs', tt, p1, p2, p3, p4⟩ := e4.code
          exact ⟨fo, doc, pm, ctv, c', hideAll_get _ e1 (nl _ _ e1 (plain_func e3).2.2), e2, e3, ⟨⟨c₂, o, vs', tt, p1, hideAll_get _ p2 (nl _ _ p2 (plain_fields p3).2.2), p3, p4⟩, e4.off⟩⟩
        refine ws_cons (w1_icall (L := L) (R := M) (x := x % 2 ^ ((M - L) * n)) (ih i rfl) (Nat.le_refl _) hsf rfl rfl rfl nofun nofun nofun rfl rfl rfl (ev_free (c := cI) rfl rfl rfl) (evs_cons vl (evs_cons vl (evs_cons vl evs_nil))) hm1 (by (clear hn hz h1 hx0 hx1 hlen hb hR h3 kk h2p hm1 hm3 hm4 ps u0 eRL u1 w0 w1 bu b3; lia)) hlen0 hm3 w0 w1 ?_ rfl rfl)
        refine ws_cons (w1_icall (L := M) (R := R) (x := x / 2 ^ ((M - L) * n)) (ns := splice n ns L M (x % 2 ^ ((M - L) * n))) (ih i rfl) (Nat.le_refl _) hsf rfl rfl rfl nofun nofun nofun rfl rfl rfl (ev_free (c := cI) rfl rfl rfl) (evs_cons vl (evs_cons vl (evs_cons vl evs_nil))) hm2 (by rw [splice_len (by (clear hn hz h1 h2 hlen0 hx0 hx1 hlen hb hR h3 kk h2p hm2 hm3 hm4 ps u0 eRL u1 w0 w1 bu b3; lia)) (by (clear hn hz h1 hx0 hx1 hlen hb hR h3 kk h2p hm1 hm3 hm4 ps u0 eRL u1 w0 w1 bu b3; lia))]; (clear hn hz h1 hx0 hx1 hlen hb hR h3 kk h2p hm1 hm2 hm3 hm4 ps u0 eRL u1 w0 w1 bu b3; omega)) (by rw [splice_len (by (clear hn hz h1 h2 hlen0 hx0 hx1 hlen hb hR h3 kk h2p hm2 hm3 hm4 ps u0 eRL u1 w0 w1 bu b3; lia)) (by (clear hn hz h1 hx0 hx1 hlen hb hR h3 kk h2p hm1 hm3 hm4 ps u0 eRL u1 w0 w1 bu b3; lia))]; exact hlen0) hm4 u0 u1 ?_ rfl rfl)
        refine ws_nil ⟨.inl rfl, ?_⟩
        rw [splice_two hx0 (by (clear hn hz h1 h2 hlen0 hx0 hx1 hlen hb hR h3 kk h2p hm2 hm3 hm4 ps u0 eRL u1 w0 w1 bu b3; lia)) (by (clear hn hz h1 h2 hlen0 hx0 hx1 hlen hb hR h3 kk h2p hm1 hm3 hm4 ps u0 eRL u1 w0 w1 bu b3; lia)) (by (clear hn hz h1 hx0 hx1 hlen hb hR h3 kk h2p hm1 hm2 hm3 hm4 ps u0 eRL u1 w0 w1 bu b3; omega))]
        rfl
  · obtain ⟨hflow, hρ⟩ := hfl
    refine flow_none rf hflow (fun v => Q v s') ?_
    obtain ⟨v, ev, l', us', k', p1, p2, p3, p4, p5, _⟩ := f'.owns _ _ hρ
    have up : ∀ b o, b ≠ l → C.off b → s.heap.get? b = some o → s'.heap.get? b = some o := fun b o nb hoff e => f'.sc b o hoff (hideAll_get _ e (nm1 nb))
    have hcl : cX ≠ l := fun q => by
      obtain ⟨oc, ec, dc⟩ := di.cel
      rw [q, el] at ec
      rw [← Option.some.inj ec] at dc
      cases dc
    have ev' : W.cm (Str.ofString "a_digits") = some v := by rw [Wt.get, if_neg nofun] at ev; exact ev
    have hll : l' = l := by
      have d2 := f'.cells (Str.ofString "a_digits") cX rfl
      rw [ev', p1] at d2
      exact Value.ref.inj (Option.some.inj (cell_inj d2 (cell_keep di.cel fun o e n => up _ o hcl (g.off e n) e)))
    rw [hll] at p2
    refine q s' us' k' f'.gd up f'.gens p2 (p3.less fun b hb => ?_)
    by_cases hbl : b = l
    · rw [hbl, ← hll]; exact p4
    · exact f'.hH b ⟨hb, nm1 hbl⟩
end Mine
/-! N10 -/
namespace Mine
open PySem PySem.W PySem.Spec PySem.Calls PyProof.Rows PySem.SeqAt
open Builtin.Int (intBits)

theorem EvNew.cast {C : Cx} {F : Fx} {ρ : Store} {e : Expr} {b b' : List D} (q : b = b') (h : EvNew C F ρ e b) : EvNew C F ρ e b' := q ▸ h
theorem t_i2d_all {C : Cx} (ok : C.Ok) (h0 : C.hd = none) {f cX cI cN : Addr} {n len : Nat} (hn : 1 ≤ n) (hz : len * n ≤ 1048576) : ∀ j, ICall C f cX cI cN n len j
  | 0 => t_i2d_step ok h0 hn hz 0 (fun i q => by cases q)
  | j + 1 => t_i2d_step ok h0 hn hz (j + 1) (fun i q => by cases q; exact t_i2d_all ok h0 hn hz j)
noncomputable def cntOf (a : Int) (n : Nat) : Nat := (intBits a + n - 1) / n
theorem cnt_fits {a : Int} {n : Nat} (hn : 1 ≤ n) (h0 : 0 ≤ a) : a < 2 ^ (n * cntOf a n) := by
  have h1 := lt_of_bits (Nat.le_refl (intBits a))
  have h2 : intBits a ≤ n * cntOf a n := by
    unfold cntOf
    have := Nat.div_add_mod (intBits a + n - 1) n
    have := Nat.mod_lt (intBits a + n - 1) hn
    (clear hn h0 h1; omega)
  have h3 : (2 : Int) ^ intBits a ≤ 2 ^ (n * cntOf a n) := by
    rw [← pow_cast, ← pow_cast]
    exact Int.ofNat_le.mpr (Nat.pow_le_pow_right (by decide) h2)
  (clear hn h0 h2; lia)
theorem cnt_mul {a : Int} {n : Nat} (hn : 1 ≤ n) : cntOf a n * n ≤ intBits a + n := by
  unfold cntOf
  have := Nat.div_mul_le_self (intBits a + n - 1) n
  omega

set_option maxHeartbeats 1000000 in
theorem t_i2d {C : Cx} (pr : Pr C) (pc : PrC C) {a : Int} {n : Nat} (hn : 1 ≤ n) (h0' : a ≠ 0 → C.hd = none) (h0 : 0 ≤ a) (hz : intBits a + n ≤ 1048576) : Does C "_int2digits" 24 [.int a, .int n] (.lst (lI (digitsOf n a (cntOf a n)))) := by
  have hcm := cnt_mul (a := a) hn
  have hcz : cntOf a n * n ≤ 1048576 := by (clear hn h0; lia)
  have hcl : cntOf a n ≤ 1048576 := Nat.le_trans (Nat.le_mul_of_pos_right _ hn) hcz
  obtain ⟨ad, hf⟩ := pc.i2d
  obtain ⟨fd, h1⟩ := hf.fn
  refine ⟨ad, fd, h1, call_fnc (names := ["a", "n"]) pr.ok hf (by decide) rfl ?_ ?_ fun L A s hid => ?_⟩
  · intro pm doc vs hl
    obtain ⟨v1, v2, rfl⟩ := len_2 hl; rfl
  · intro x hx L
    rcases List.mem_cons.mp hx with rfl | hx
    · exact .inl rfl
    · rcases List.mem_cons.mp hx with rfl | hx
      · exact .inr ⟨rfl, rfl⟩
      · cases hx
  · have e1 : ((intBits a : Int) + n - 1).fdiv n = (cntOf a n : Int) := by
      rw [fdiv_pos (by (clear h0 hz hcm hcz hcl; lia))]
      unfold cntOf
      rw [show ((intBits a : Int) + n - 1) = ((intBits a + n - 1 : Nat) : Int) by (clear h0 hz hcm hcz hcl; lia), Int.natCast_ediv]
    refine ws_cons (w1_assign_new_c (c := L + 1 + 1) (ds := lI (List.replicate (cntOf a n) 0)) ?_ ?_ rfl rfl rfl)
    · refine EvNew.cast (b := (List.replicate ((cntOf a n : Int)).toNat [D.int 0]).flatten) (by rw [Int.toNat_natCast, lI_rep]) (evnew_lmul (ds := [.int 0]) (x := (cntOf a n : Int)) (ev_list (evs_cons ev_int evs_nil) kle) (Ev.cast (by rw [e1]) (ev_bin (ev_bin (ev_bin (ev_meth (T := "int") (vl (d := .int a)) evs_nil rfl call_bits (Nat.zero_le _) PySem.F.plainAttrs_int PySem.F.slot_int_bit_length PySem.F.type_int_bit_length) (ev_cell (c := L + 1) (d := .int n) rfl rfl rfl) bin_add kle) ev_int bin_sub kle) (ev_cell (c := L + 1) (d := .int n) rfl rfl rfl) (bin_floordiv (by (clear h0 hz hcm hcz hcl e1; lia)) (pylong_by (bits_of_lt (by (clear h0 hz hcm hcz hcl e1; lia)) (by (clear hn h0 hcm hcz hcl e1; lia))))) kle)) nofun (by (clear hn h0 hz hcm hcz; lia)) (by (clear hn h0 hz hcm hcz; lia)) (by rw [Int.toNat_natCast]; show 1 * _ ≤ _; (clear hn h0 hz hcm hcz; lia)))
    refine ws_def (t := C.ta) (clos := clos3 "a_digits" (L + 1 + 1) (L + 1 + 1 + 1) (L + 1)) (c := L + 1 + 1 + 1) (.inl rfl) rfl pc.ta.2.2 rfl ⟨pc.ta.1, pc.ta.2.1⟩ rfl rfl rfl rfl rfl rfl rfl rfl fun sc' f fo doc pm ctv c' e1 e2 e3 e4 => ?_
    refine ws_if (b := a != 0) (σ := [("a_digits", .own (lI (digitsOf n a (cntOf a n))))]) (ts_val (d := .int a) vl rfl trivial) (fun hb => ?_) (fun hb => ?_) ?_
    · have ha : a ≠ 0 := by simpa using hb
      have hb1 : 1 ≤ intBits a := by
        apply Nat.le_of_not_lt
        intro q
        have := intBits_le_iff.mp (show intBits a ≤ 0 by (clear hn h0 hz hcm hcz hcl hb ha; lia))
        (clear hn hz hcm hcz hcl hb q; lia)
      have hc1 : 0 < cntOf a n := Nat.div_pos (by (clear hn h0 hz hcm hcz hcl hb ha; omega)) hn
      refine ws_cons (w1_icall (f := f) (cX := L + 1 + 1) (cI := L + 1 + 1 + 1) (cN := L + 1) (n := n) (len := cntOf a n) (j := 20) (L := 0) (R := cntOf a n) (x := a) (ns := List.replicate (cntOf a n) 0) (t_i2d_all pr.ok (h0' ha) hn hcz 20) kle ⟨fo, doc, pm, ctv, c', e1, e2, e3, e4⟩ rfl rfl rfl nofun nofun nofun rfl rfl rfl (ev_cell (c := L + 1 + 1 + 1) rfl rfl rfl)
        (evs_cons vl (evs_cons (d := .int ((0 : Nat) : Int)) ev_int (evs_cons (d := .int ((cntOf a n : Nat) : Int)) (Ev.cast (by rw [ints_len, List.length_replicate]) (ev_len_own_c (c := L + 1 + 1) (ds := lI (List.replicate (cntOf a n) 0)) rfl (.inl rfl) rfl pr.len rfl (by rw [ints_len, List.length_replicate]; (clear hn h0 hz hcm hcz hb ha hb1; lia)))) evs_nil)))
        hc1 (by rw [List.length_replicate]; exact Nat.le_refl _) List.length_replicate (by (clear hn h0 hz hcm hcz hb ha hb1; omega)) h0 (by rw [Nat.sub_zero]; exact cnt_fits hn h0) ?_ rfl rfl)
      refine ws_nil ⟨?_, trivial⟩
      unfold splice
      rw [List.take_zero, Nat.sub_zero, List.nil_append, List.drop_of_length_le (by rw [List.length_replicate]; exact Nat.le_refl _), List.append_nil]
      rfl
    · have ha : a = 0 := by simpa using hb
      subst ha
      have : cntOf 0 n = 0 := by
        unfold cntOf
        rw [show intBits 0 = 0 by decide]
        exact Nat.div_eq_of_lt (by (clear h0 hz hcm hcz hcl e1 hb; omega))
      rw [this]
      exact ws_nil ⟨rfl, trivial⟩
    · exact ws_freeze (x := "a_digits") rfl (ws_cons (w1_ret (ev_cell (c := L + 1 + 1) rfl rfl rfl) rfl))

/-- what holds between two digits -/
noncomputable def DpI (n : Nat) (b : Int) (ds rest : List Int) (ρ' : Store) : Prop := ∃ (pre qs : List Int) (r : Int), pre ++ rest = ds ∧ qs.length = pre.length ∧ (∀ d ∈ qs, 0 ≤ d ∧ d < 2 ^ n) ∧ 0 ≤ r ∧ r < b ∧ digVal n pre.reverse = digVal n qs.reverse * b + r ∧ Sub [("q_digits", .own (lI qs)), ("r", .val (.int r)), ("b", .val (.int b)), ("n", .val (.int n))] ρ'
noncomputable abbrev P_dp : {d : DefRec // defOf pw "_divmod_pos" = some (d, [])} := ⟨_, rfl⟩
noncomputable abbrev R_dp : DefRec := P_dp.1
set_option maxHeartbeats 1000000 in
theorem t_dp {C : Cx} (pr : Pr C) (pc : PrC C) {a b : Int} (h0' : a ≠ 0 → C.hd = none) (h0 : 0 ≤ a) (hb : 0 < b) (ha : intBits a ≤ 120000) (hbz : intBits b ≤ 120000) : Does C "_divmod_pos" 25 [.int a, .int b] (.tup [.int (a / b), .int (a % b)]) := by
  obtain ⟨n, hnd⟩ : ∃ n, n = intBits b := ⟨_, rfl⟩
  have hb0 : b < 2 ^ n := by rw [hnd]; exact lt_of_bits (Nat.le_refl _)
  have hn : 1 ≤ n := by
    apply Nat.le_of_not_lt
    intro q
    have : n = 0 := by (clear h0 hb ha hb0; lia)
    rw [this] at hb0
    (clear h0 ha hbz hnd q this; lia)
  have hb1 : 2 ^ (n - 1) ≤ b := by
    apply Int.le_of_not_gt
    intro q
    have := bits_of_lt (Int.le_of_lt hb) q
    (clear h0 hb ha hb0 q; grind)
  have hp := pow_pos2 n
  have hcm := cnt_mul (a := a) hn
  have hcl : cntOf a n ≤ 300000 := Nat.le_trans (Nat.le_mul_of_pos_right _ hn) (by (clear h0 hb hb0 hb1 hp; lia))
  refine does (d := R_dp) (names := ["a", "b"]) pr P_dp.2 rfl (by decide) rfl (fun pm cd doc vs hl => ?_) (by decide) (fun L ad cd A s hid => ?_)
  · obtain ⟨v1, v2, rfl⟩ := len_2 hl; rfl
  · have hsl : (1000000 : Nat) ≤ sizeLine := by decide
    refine ws_cons (w1_assign (d := .int n) (Ev.cast (by rw [hnd]) (ev_meth (T := "int") (vl (d := .int b)) evs_nil rfl call_bits (Nat.zero_le _) PySem.F.plainAttrs_int PySem.F.slot_int_bit_length PySem.F.type_int_bit_length)) ?_ rfl)
    refine ws_cons (w1_assign (ev_call (t_i2d pr pc hn h0' h0 (by (clear h0 hb hb0 hb1 hp hcm hcl hsl; lia))) (evs_cons vl (evs_cons vl evs_nil)) kle rfl) ?_ rfl)
    refine ws_cons (w1_assign (d := .int 0) ev_int ?_ rfl)
    refine ws_cons (w1_assign_new (evnew_list evs_nil) ?_ rfl)
    have hD := digVal_digits n (cntOf a n) a h0 (cnt_fits hn h0)
    have hDr := digitsOf_range (n := n) (m := cntOf a n) (x := a)
    have hDl := digitsOf_len n (cntOf a n) a
    have hD0 : digitsOf n a (cntOf a n) ≠ [] → C.hd = none := fun q => h0' (fun q2 => q (by
      apply List.length_eq_zero_iff.mp
      rw [digitsOf_len, q2]
      unfold cntOf
      rw [show intBits 0 = 0 by decide]
      exact Nat.div_eq_of_lt (by (clear h0 hb ha hb0 hb1 hp hcm hcl hsl hD hDl q q2; omega))))
    generalize digitsOf n a (cntOf a n) = D at hD hDr hDl hD0
    have erev : (lI D).reverse = lI D.reverse := by unfold lI; rw [List.map_reverse]
    refine ws_forM (xs := D.reverse) Mine.D.int (DpI n b D.reverse) (by show EvIt C _ _ _ (lI D.reverse); rw [← erev]; exact evit_rev (vl (d := .lst (lI D))) (pr.no _ (by rw [show bootBuiltins (Str.ofString "reversed") = some (.type "reversed") by with_unfolding_all rfl]; exact nofun) (by decide)) rfl)
      ⟨[], [], 0, rfl, rfl, nofun, by (clear h0 hb ha hbz hnd hb0 hn hb1 hp hcm hcl hsl hD hDl; lia), hb, by simp [digVal], rfl, rfl, rfl, rfl, trivial⟩ ?_ ?_ kle
    · rintro ps se d rest ρ' ⟨pre, qs, r, e2, e3, e4, e5, e6, e7, hS⟩
      have hd := hDr d (by have : d ∈ D.reverse := by rw [← e2]; simp
                           exact List.mem_reverse.mp this)
      have hlen : pre.length + (rest.length + 1) = cntOf a n := by
        have := congrArg List.length e2
        rw [List.length_append, List.length_reverse, List.length_cons, hDl] at this
        exact this
      refine ⟨_, as_sub hS (as_name rfl), ?_⟩
      have hz0 : C.hd = none := hD0 (by intro q; rw [q] at e2; simp at e2)
      have A1 : r * 2 ^ n + d < b * 2 ^ n := by
        have : (r + 1) * 2 ^ n ≤ b * 2 ^ n := Int.mul_le_mul_of_nonneg_right (by (clear h0 hb ha hbz hnd hb0 hn hb1 hp hcm hcl hsl hD hDl e3 e5 hd hlen; lia)) (Int.le_of_lt hp)
        rw [Int.add_mul] at this; (clear h0 hb ha hbz hnd hb0 hn hb1 hp hcm hcl hsl hD hDl e3 e5 e6 e7 hlen; omega)
      have A0 : 0 ≤ r * 2 ^ n := Int.mul_nonneg e5 (Int.le_of_lt hp)
      have br : intBits r ≤ n := bits_of_lt e5 (by (clear h0 hb ha hbz hnd hn hb1 hp hcm hcl hsl hD hDl e3 e5 hd hlen A1 A0; lia))
      have T := t_div2 pr hz0 5 (by decide) (r * 2 ^ n + d) b n hn (by (clear h0 hb ha hb0 hb1 hp hcm hcl hsl hD hDl e3 e5 e6 e7 hd hlen A1 A0 br; lia)) hb1 hb0 (by (clear h0 hb ha hbz hnd hb0 hn hb1 hp hcm hcl hsl hD hDl e3 e5 e6 e7 hlen A1 br; omega)) A1
      refine ws_cons (w1_assign_tuple (ev_call T (evs_cons (Ev.cast (by rw [Int.toNat_natCast]) (ev_bin (ev_bin vl vl (bin_shl (b := (n : Int)) (by (clear h0 hb ha hb0 hb1 hp hcm hcl hsl hD hDl e3 e5 e6 e7 hd hlen A1 A0 br; grind)) (by (clear h0 hb ha hb0 hb1 hp hcm hcl hsl hD hDl e3 e5 e6 e7 hd hlen A1 A0; lia))) kle) vl bin_add kle)) (evs_cons vl (evs_cons vl evs_nil))) kle rfl) (.cons (as_name rfl) (.cons (as_name rfl) .nil rfl) rfl) ?_)
      have m1 := Int.mul_ediv_add_emod (r * 2 ^ n + d) b
      have m2 := Int.emod_nonneg (r * 2 ^ n + d) (Int.ne_of_gt hb)
      have m3 := Int.emod_lt_of_pos (r * 2 ^ n + d) hb
      have m4 : 0 ≤ (r * 2 ^ n + d) / b := Int.ediv_nonneg (by (clear h0 hb ha hbz hnd hb0 hn hb1 hp hcm hcl hsl hD hDl e3 e5 e6 e7 hlen A1 br m2 m3; lia)) (Int.le_of_lt hb)
      have m5 : (r * 2 ^ n + d) / b < 2 ^ n := Int.ediv_lt_of_lt_mul hb (by rw [Int.mul_comm (2 ^ n) b]; exact A1)
      refine ws_cons (w1_append (x := "q_digits") (ds := lI qs) (d := .int ((r * 2 ^ n + d) / b)) rfl rfl vl (by rw [ints_len]; (clear h0 hb ha hbz hnd hb0 hn hb1 hp hcm hD e5 e6 e7 hd A1 A0 br m1 m2 m3 m4 m5; lia)) ?_)
      refine ws_nil ⟨pre ++ [d], qs ++ [(r * 2 ^ n + d) / b], (r * 2 ^ n + d) % b, by rw [List.append_assoc]; exact e2, by simp [e3], ?_, m2, m3, ?_, by rw [lI_append]; rfl, rfl, rfl, rfl, trivial⟩
      · intro z hz
        rcases List.mem_append.mp hz with hz | hz
        · exact e4 z hz
        · exact all1 (P := fun z => 0 ≤ z ∧ z < 2 ^ n) ⟨m4, m5⟩ z hz
      · rw [List.reverse_append, List.reverse_append]
        show d + 2 ^ n * digVal n pre.reverse = ((r * 2 ^ n + d) / b + 2 ^ n * digVal n qs.reverse) * b + (r * 2 ^ n + d) % b
        rw [e7, Int.add_mul, Int.mul_add, ← Int.mul_assoc, Int.mul_comm (2 ^ n) r, Int.mul_comm ((r * 2 ^ n + d) / b) b]
        (clear h0 hb ha hbz hnd hb0 hn hb1 hp hcm hcl hsl hD hDl e3 e5 e6 e7 hd hlen A1 A0 br m2 m3 m4 m5; omega)
    · rintro ρ' ⟨pre, qs, r, e2, e3, e4, e5, e6, e7, hS⟩
      rw [List.append_nil] at e2
      rw [e2, List.reverse_reverse, hD] at e7
      rw [e2] at e3
      obtain ⟨d1, d2⟩ := div_unique e7 e5 e6
      have hql : qs.length = cntOf a n := by rw [e3, List.length_reverse, hDl]
      rw [d1, d2]
      refine ws_sub hS ?_
      refine ws_cons (w1_reverse (x := "q_digits") (ds := lI qs) rfl rfl (by rw [ints_len]; (clear h0 hb ha hbz hnd hb0 hn hb1 hp hcm hD e5 e6 e7 d1 d2; lia)) ?_)
      have erq : (lI qs).reverse = lI qs.reverse := by unfold lI; rw [List.map_reverse]
      rw [erq]
      refine ws_freeze (x := "q_digits") rfl ?_
      have T := t_d2i pr pc (ns := qs.reverse) (fun q => hD0 (by intro q2; apply q; have := congrArg List.length q2; rw [hDl] at this; rw [← hql] at this; rw [List.length_eq_zero_iff.mp this]; rfl)) hn (fun d hd => e4 d (List.mem_reverse.mp hd)) (by rw [List.length_reverse, hql]; (clear h0 hb hb0 hb1 hp hcl hsl hD hDl e5 e6 e3 e7 d1 d2 hql; lia))
      refine ws_cons (w1_assign (ev_call T (evs_cons vl (evs_cons vl evs_nil)) kle rfl) ?_ rfl)
      exact ws_cons (w1_ret (ev_tuple (evs_cons vl (evs_cons vl evs_nil)) kle) rfl)

/-! ## `int_divmod` -/
noncomputable abbrev P_idm : {d : DefRec // defOf pw "int_divmod" = some (d, [])} := ⟨_, rfl⟩
noncomputable abbrev R_idm : DefRec := P_idm.1
theorem idm_pos {C : Cx} (pr : Pr C) (pc : PrC C) {a b : Int} (h0' : a ≠ 0 → C.hd = none) (h0 : 0 ≤ a) (hb : 0 < b) (ha : intBits a ≤ 120000) (hbz : intBits b ≤ 120000) : Does C "int_divmod" 26 [.int a, .int b] (.tup [.int (a.fdiv b), .int (a.fmod b)]) := by
  rw [fdiv_pos (Int.le_of_lt hb), fmod_pos (Int.le_of_lt hb)]
  refine does (d := R_idm) (names := ["a", "b"]) pr P_idm.2 rfl (by decide) rfl (fun pm cd doc vs hl => ?_) (by decide) (fun L ad cd A s hid => ?_)
  · obtain ⟨v1, v2, rfl⟩ := len_2 hl; rfl
  · refine ws_cons (w1_if (b := b == 0) (ts_cmp vl ev_int cmp_eq kle) (fun q => absurd q (by simp; (clear h0 ha hbz q; lia))) (fun zz => ?_))
    refine ws_last (w1_if (b := decide (b < 0)) (ts_cmp vl ev_int cmp_lt kle) (fun q => absurd (of_decide_eq_true q) (by (clear h0 ha hbz q; lia))) (fun zz => ?_))
    refine ws_last (w1_if (b := decide (a < 0)) (ts_cmp vl ev_int cmp_lt kle) (fun q => absurd (of_decide_eq_true q) (by (clear hb ha hbz q; lia))) (fun zz => ?_))
    exact ws_cons (w1_ret (ev_call (t_dp pr pc h0' h0 hb ha hbz) (evs_cons vl (evs_cons vl evs_nil)) kle rfl) rfl)
theorem idm_neg {C : Cx} (pr : Pr C) (pc : PrC C) {a b : Int} (h0' : C.hd = none) (h0 : a < 0) (hb : 0 < b) (ha : intBits a ≤ 120000) (hbz : intBits b ≤ 120000) : Does C "int_divmod" 27 [.int a, .int b] (.tup [.int (a.fdiv b), .int (a.fmod b)]) := by
  have hba : intBits (Builtin.bitNot a) ≤ 120000 := intBits_le_of_natAbs (by unfold Builtin.bitNot; (clear hb ha hbz; grind)) ha
  have n0 : 0 ≤ Builtin.bitNot a := by unfold Builtin.bitNot; (clear hb ha hbz hba; lia)
  have T := idm_pos pr pc (fun zz => h0') n0 hb hba hbz
  rw [fdiv_pos (Int.le_of_lt hb), fmod_pos (Int.le_of_lt hb)] at T
  have key : a / b = Builtin.bitNot (Builtin.bitNot a / b) ∧ a % b = b + Builtin.bitNot (Builtin.bitNot a % b) := by
    have m1 := Int.mul_ediv_add_emod (Builtin.bitNot a) b
    have m2 := Int.emod_nonneg (Builtin.bitNot a) (Int.ne_of_gt hb)
    have m3 := Int.emod_lt_of_pos (Builtin.bitNot a) hb
    generalize Builtin.bitNot a / b = q at *
    generalize Builtin.bitNot a % b = r at *
    refine div_unique ?_ (by unfold Builtin.bitNot; (clear h0 hb ha hbz hba n0 m2 m1; lia)) (by unfold Builtin.bitNot; (clear h0 hb ha hbz hba n0 m3 m1; lia))
    unfold Builtin.bitNot at *
    rw [Int.sub_mul, Int.neg_mul, Int.mul_comm q b]
    (clear h0 hb ha hbz hba n0 m2 m3; lia)
  rw [fdiv_pos (Int.le_of_lt hb), fmod_pos (Int.le_of_lt hb), key.1, key.2]
  refine does (d := R_idm) (names := ["a", "b"]) pr P_idm.2 rfl (by decide) rfl (fun pm cd doc vs hl => ?_) (by decide) (fun L ad cd A s hid => ?_)
  · obtain ⟨v1, v2, rfl⟩ := len_2 hl; rfl
  · refine ws_cons (w1_if (b := b == 0) (ts_cmp vl ev_int cmp_eq kle) (fun q => absurd q (by simp; (clear h0 ha hbz hba n0 q; lia))) (fun zz => ?_))
    refine ws_last (w1_if (b := decide (b < 0)) (ts_cmp vl ev_int cmp_lt kle) (fun q => absurd (of_decide_eq_true q) (by (clear h0 ha hbz hba n0 q; lia))) (fun zz => ?_))
    refine ws_last (w1_if (b := decide (a < 0)) (ts_cmp vl ev_int cmp_lt kle) (fun zz => ?_) (fun q => absurd (of_decide_eq_false q) (by (clear hb ha hbz hba n0 key q; lia))))
    refine ws_cons (w1_assign_tuple (ev_call T (evs_cons (ev_un (vl (d := .int a)) un_inv kle) (evs_cons vl evs_nil)) kle rfl) (.cons (as_name rfl) (.cons (as_name rfl) .nil rfl) rfl) ?_)
    exact ws_cons (w1_ret (ev_tuple (evs_cons (ev_un vl un_inv kle) (evs_cons (ev_bin vl (ev_un vl un_inv kle) bin_add kle) evs_nil)) kle) rfl)
theorem idm_b {C : Cx} (pr : Pr C) (pc : PrC C) {a b : Int} (h0' : C.hd = none) (hb : 0 < b) (ha : intBits a ≤ 120000) (hbz : intBits b ≤ 120000) : ∃ k, k ≤ 27 ∧ Does C "int_divmod" k [.int a, .int b] (.tup [.int (a.fdiv b), .int (a.fmod b)]) := by
  by_cases h : 0 ≤ a
  · exact ⟨26, by decide, idm_pos pr pc (fun zz => h0') h hb ha hbz⟩
  · exact ⟨27, by decide, idm_neg pr pc h0' (by (clear hb ha hbz; lia)) hb ha hbz⟩
theorem t_idm {C : Cx} (pr : Pr C) (pc : PrC C) {a b : Int} (h0' : C.hd = none) (hb : b ≠ 0) (ha : intBits a ≤ 120000) (hbz : intBits b ≤ 120000) : ∃ k, k ≤ 28 ∧ Does C "int_divmod" k [.int a, .int b] (.tup [.int (a.fdiv b), .int (a.fmod b)]) := by
  by_cases h : 0 < b
  · obtain ⟨k, hk, T⟩ := idm_b pr pc h0' (a := a) h ha hbz
    exact ⟨k, by (clear hb ha hbz h; lia), T⟩
  · obtain ⟨k, hk, T⟩ := idm_b pr pc h0' (a := -a) (b := -b) (by (clear ha hbz; lia)) (intBits_neg_le ha) (intBits_neg_le hbz)
    refine ⟨28, Nat.le_refl _, ?_⟩
    have e1 : (-a).fdiv (-b) = a.fdiv b := Int.neg_fdiv_neg a b
    have e2 : a.fmod b = -((-a).fmod (-b)) := by
      have m1 := Int.mul_fdiv_add_fmod (-a) (-b)
      have m2 := Int.mul_fdiv_add_fmod a b
      rw [e1, Int.neg_mul] at m1
      (clear hb ha hbz h hk e1; omega)
    rw [e1] at T
    rw [e2]
    refine does (d := R_idm) (names := ["a", "b"]) pr P_idm.2 rfl (by decide) rfl (fun pm cd doc vs hl => ?_) (by decide) (fun L ad cd A s hid => ?_)
    · obtain ⟨v1, v2, rfl⟩ := len_2 hl; rfl
    · refine ws_cons (w1_if (b := b == 0) (ts_cmp vl ev_int cmp_eq kle) (fun q => absurd q (by simp; (clear ha hbz h hk e1 e2 q; omega))) (fun zz => ?_))
      refine ws_last (w1_if (b := decide (b < 0)) (ts_cmp vl ev_int cmp_lt kle) (fun zz => ?_) (fun q => absurd (of_decide_eq_false q) (by (clear ha hbz hk e1 e2 q; lia))))
      refine ws_cons (w1_assign_tuple (ev_call T (evs_cons (ev_un (vl (d := .int a)) un_neg kle) (evs_cons (ev_un (vl (d := .int b)) un_neg kle) evs_nil)) (by show k ≤ 27; exact hk) rfl) (.cons (as_name rfl) (.cons (as_name rfl) .nil rfl) rfl) ?_)
      exact ws_cons (w1_ret (ev_tuple (evs_cons vl (evs_cons (ev_un vl un_neg kle) evs_nil)) kle) rfl)
end Mine
/-! N11 -/
namespace Mine
open PySem PySem.W PySem.Spec PySem.Calls PyProof.Rows PySem.SeqAt
open Builtin.Int (intBits)

/-! ## `_law_run` -/
noncomputable def RunOk (t : Int) : Int → Int → List Int → Prop
  | u, l, [] => l = 0 ∧ 0 < u
  | u, l, q :: qs => 0 < l ∧ 0 ≤ t * (u - l * q) ∧ t * (u - l * q) < l ∧ (t * (u - l * q) = 0 ↔ qs = []) ∧ RunOk t l (t * (u - l * q)) qs
theorem un_not {C : Cx} {b : Bool} : St C 1 (fun vs => match vs with | [v] => unaryOp .Not v | _ => pure .none) [.bool b] (.bool (!b)) := by
  intro A hid s vs Q E rm g bd r q
  obtain ⟨v, rfl, rv⟩ := r.one
  cases rv.bool_inv
  exact not_of (wpAny_truthy_bool (q _ _ (Ex.refl g) (.bool _)))
theorem fdm {a b q r : Int} (h : a = b * q + r) (hr : (0 < b ∧ 0 ≤ r ∧ r < b) ∨ (b < 0 ∧ b < r ∧ r ≤ 0)) : a.fdiv b = q ∧ a.fmod b = r := by
  rcases hr with ⟨h1, h2, h3⟩ | ⟨h1, h2, h3⟩
  · rw [fdiv_pos (Int.le_of_lt h1), fmod_pos (Int.le_of_lt h1)]
    exact div_unique (by rw [h, Int.mul_comm]) h2 h3
  · have e1 : a.fdiv b = (-a).fdiv (-b) := (Int.neg_fdiv_neg a b).symm
    have e2 : a.fmod b = -((-a).fmod (-b)) := by rw [Int.fmod_def, Int.fmod_def, Int.neg_fdiv_neg, Int.neg_sub]; simp [Int.neg_mul]; (clear h h1 h2 h3 e1; lia)
    rw [e1, e2, fdiv_pos (by (clear h h2 h3 e1 e2; lia)), fmod_pos (by (clear h h2 h3 e1 e2; lia))]
    obtain ⟨d1, d2⟩ := div_unique (A := -a) (b := -b) (q := q) (r := -r) (by rw [h, Int.mul_neg, Int.mul_comm]; (clear h h1 h2 h3 e1 e2; lia)) (by (clear h h1 h2 e1 e2; lia)) (by (clear h h1 h3 e1 e2; lia))
    exact ⟨d1, by rw [d2, Int.neg_neg]⟩
theorem range_free {C : Cx} (pr : Pr C) : C.mg (Str.ofString "range") = none := pr.no _ (by rw [show bootBuiltins (Str.ofString "range") = some (.type "range") by with_unfolding_all rfl]; exact nofun) (by decide)

theorem ws_skip {C : Cx} {F : Fx} {ρ : Store} {K : Fl → Store → Prop} {test : Expr} {body rest : List Stmt} {p : Pos} (ht : Ts C F ρ test false) (hr : Ws C F ρ rest K) : Ws C F ρ (.If test body [] p :: rest) K :=
  ws_cons (w1_if ht nofun fun zz => ws_nil hr)
noncomputable abbrev P_run : {d : DefRec // defOf pw "_law_run" = some (d, [])} := ⟨_, rfl⟩
noncomputable abbrev R_run : DefRec := P_run.1
noncomputable abbrev runσ (u l t : Int) (due : List Int) : Store := [("upper", .val (.int u)), ("lower", .val (.int l)), ("due", .val (.lst (lI due))), ("turn", .val (.int t))]
noncomputable abbrev runF (L a : Addr) (cd : Value) (A : Around) (s : Shared) (hid : Addr → Prop) (L0 : Addr) (oL : Obj) : Fx :=
  { env := envOf "_law_run" R_run.scope L a cd, A := A.deeper (envOf "_law_run" R_run.scope L a cd), k := 30, cst := true, sc := hideAll s.heap [L0], H := fun b => hid b ∧ b ≠ L0, pins := [(L0, oL)], seen := [], gens := s.gens }
noncomputable abbrev RunSt : Option Stmt := R_run.body.head?

/-- what holds between two turns of `_law_run` -/
noncomputable def RunI (t : Int) (due : List Int) (rr : List D) (ρ' : Store) : Prop := ∃ (pre rest : List Int) (u' l' : Int), rr = rngs pre.length rest.length ∧ pre ++ rest = due ∧ RunOk t u' l' rest ∧ intBits u' ≤ 50000 ∧ intBits l' ≤ 50000 ∧ Sub (runσ u' l' t due) ρ'
set_option maxHeartbeats 2000000 in
theorem run_loop {C : Cx} (pr : Pr C) (pc : PrC C) (h0 : C.hd = none) {t u l : Int} {due : List Int} (ht : t = 1 ∨ t = -1) (hok : RunOk t u l due) (hn : due.length ≤ 1000) (hu : intBits u ≤ 50000) (hl : intBits l ≤ 50000) (hd : ∀ q ∈ due, intBits q ≤ 10000)
    {L a : Addr} {cd : Value} {A : Around} {s : Shared} {hid : Addr → Prop} {L0 : Addr} {oL : Obj} {st : Stmt} (hst : RunSt = some st) :
    W1 C (runF L a cd A s hid L0 oL) (runσ u l t due) st (fun fl ρ' => fl = .next ∧ ∃ u' : Int, 0 < u' ∧ intBits u' ≤ 50000 ∧ Sub [("upper", .val (.int u')), ("lower", .val (.int 0))] ρ') := by
  cases hst
  have hll : (lI due).length = due.length := ints_len _
  refine w1_for (ds := rngs 0 due.length) (evit_range (n := due.length) (Ev.cast (by rw [hll]) (ev_call_bi pr.len bt_len (evs_cons (vl (d := .lst (lI due))) evs_nil) (call_len_lst (by rw [hll]; (clear ht hu hl; lia))) kle rfl)) (by (clear ht hu hl; lia)) h0 (range_free pr) rfl) (RunI t due)
    ⟨[], due, u, l, rfl, rfl, hok, hu, hl, rfl, rfl, rfl, rfl, trivial⟩ ?_ ?_ kle
  · rintro ps se d r ρ' ⟨pre, rest, u', l', e1, e2, hR, hu', hl', hS⟩
    cases rest with
    | nil => cases e1
    | cons q rest =>
      rw [List.length_cons, rngs_succ] at e1
      cases e1
      obtain ⟨r0, r1, r2, r3, r4⟩ := hR
      have hq : intBits q ≤ 10000 := hd q (by rw [← e2]; simp)
      have hlen : pre.length + (rest.length + 1) = due.length := by rw [← e2]; simp
      generalize hrr : t * (u' - l' * q) = rr at r1 r2 r3 r4
      have eu : u' = l' * q + t * rr := by
        rw [← hrr, ← Int.mul_assoc]
        rcases ht with rfl | rfl <;> (clear hn hu hl hll hu' hl' r0 hq hlen r1 r2 r3 hrr; lia)
      have hrb : intBits rr ≤ 50000 := intBits_le_of_natAbs (y := l') (by (clear ht hn hu hl hll hu' hl' hq hlen hrr r3 eu; grind)) hl'
      have bq : intBits (l' * q) ≤ 60000 := bits_mul hl' hq
      have bs : intBits (u' - l' * q) ≤ 60001 := by
        have := bits_add hu' (intBits_neg_le bq)
        rw [← Int.sub_eq_add_neg] at this
        exact Nat.le_trans this (by decide)
      have bt : intBits t ≤ 1 := by rcases ht with rfl | rfl <;> decide
      refine ⟨_, as_sub hS (as_name rfl), ?_⟩
      obtain ⟨sd, hsd⟩ : ∃ sd : Int, 1 - 2 * Int.fmod (pre.length : Int) 2 = sd := ⟨_, rfl⟩
      have hsd1 : sd = 1 ∨ sd = -1 := by
        rw [← hsd, fmod_pos (by decide)]
        (clear ht hn hu hl hll hu' hl' r0 hq hlen hrr r1 r2 r3 eu hrb bq bs bt hsd; lia)
      have bsd : intBits sd ≤ 1 := by rcases hsd1 with rfl | rfl <;> decide
      have bm2 : intBits (Int.fmod (pre.length : Int) 2) ≤ 64 := intBits_le_iff.mpr (by rw [fmod_pos (by decide)]; (clear ht hn hu hl hll hu' hl' r0 hq hlen hrr r1 r2 r3 eu hrb bq bs bt hsd hsd1 bsd; grind))
      refine ws_cons (w1_assign (d := .int sd) (Ev.cast (by rw [hsd]) (ev_bin ev_int (ev_bin ev_int (ev_bin (vl (d := .int (pre.length : Int))) ev_int (bin_mod (by decide)) kle) (bin_mul (mulOk_of_bits (m := 64) (n := 64) (by decide) bm2 (by decide))) kle) bin_sub kle)) ?_ rfl)
      have hget : (lI due)[(pre.length : Int).toNat]? = some (.int q) := by
        rw [Int.toNat_natCast]
        unfold lI
        rw [List.getElem?_map, ← e2, List.getElem?_append_right (Nat.le_refl _), Nat.sub_self]; rfl
      have itm : ∀ {C : Cx}, Itm C (.lst (lI due)) (.int (pre.length : Int)) (.int q) := itm_list (by (clear ht hn hu hl hll hu' hl' r0 hq hlen hrr r1 r2 r3 eu hrb bq bs bt hsd hsd1 bsd bm2; lia)) (by (clear ht hu hl hu' hl' r0 hq hrr r1 r2 r3 eu hrb bq bs bt hsd hsd1 bsd bm2; lia)) hget
      refine ws_cons (w1_assign (d := .int rr) (Ev.cast (by rw [hrr]) (ev_bin vl (ev_bin vl (ev_bin vl (ev_sub (vl (d := .lst (lI due))) (vl (d := .int (pre.length : Int))) itm trivial kle) (bin_mul (mulOk_of_bits hl' hq (by decide))) kle) bin_sub kle) (bin_mul (mulOk_of_bits bt bs (by decide))) kle)) ?_ rfl)
      have bst : intBits (sd * t) ≤ 2 := bits_mul bsd bt
      have key := fdm (a := sd * t * u') (b := sd * l') (q := t * q) (r := sd * rr) (by
        rw [eu]
        rcases ht with rfl | rfl <;> rcases hsd1 with rfl | rfl <;> simp only [Int.one_mul, Int.neg_one_mul, Int.mul_one, Int.neg_mul, Int.mul_neg, Int.neg_neg, Int.neg_add] <;> omega) (by
        rcases hsd1 with rfl | rfl <;> (clear ht hn hu hl hll hu' hl' hq hlen hrr r3 eu hrb bq bs bt bm2 hsd bsd bst; grind))
      obtain ⟨kk, hkk, T⟩ := t_idm pr pc (a := sd * t * u') (b := sd * l') h0 (by rcases hsd1 with rfl | rfl <;> (clear ht hn hu hl hll hu' hl' hq hlen hrr r1 r2 r3 eu hrb bq bs bt bm2 hsd bsd bst key; lia)) (Nat.le_trans (bits_mul bst hu') (by decide)) (Nat.le_trans (bits_mul bsd hl') (by decide))
      rw [key.1, key.2] at T
      refine ws_skip (Ts.cast (by simp) (ts_cmp (ev_call T (evs_cons (ev_bin (ev_bin vl vl (bin_mul (mulOk_of_bits bsd bt (by decide))) kle) vl (bin_mul (mulOk_of_bits bst hu' (by decide))) kle) (evs_cons (ev_bin vl vl (bin_mul (mulOk_of_bits bsd hl' (by decide))) kle) evs_nil)) (Nat.le_trans hkk kle) rfl) (ev_tuple (evs_cons (ev_bin vl (ev_sub (vl (d := .lst (lI due))) (vl (d := .int (pre.length : Int))) itm trivial kle) (bin_mul (mulOk_of_bits bt hq (by decide))) kle) (evs_cons (ev_bin vl vl (bin_mul (mulOk_of_bits bsd hrb (by decide))) kle) evs_nil)) kle) (cmp_tne (ns := [t * q, sd * rr]) (ms := [t * q, sd * rr])) kle)) ?_
      obtain ⟨la, hla⟩ : ∃ la : Bool, la = rest.isEmpty := ⟨_, rfl⟩
      have hla0 : (rr == 0) = la := by
        rw [hla]
        cases rest with
        | nil => simpa using r3.mpr rfl
        | cons _ _ => simpa using fun q => nomatch r3.mp q
      have hk : ((pre.length : Int) == (due.length : Int) - 1) = la := by
        rw [hla]
        cases rest with
        | nil => simp at hlen ⊢; (clear ht hn hu hl hu' hl' r0 hq hrr r1 r2 eu hrb bq bs bt hsd hsd1 bsd bm2 bst key hkk hla0 r3 hla; lia)
        | cons _ _ => simp at hlen ⊢; (clear ht hn hu hl hu' hl' r0 hq hrr r1 r2 eu hrb bq bs bt hsd hsd1 bsd bm2 bst key hkk hla0 r3 hla; lia)
      have hsr : (sd * rr == 0) = la := by
        rw [← hla0]
        rcases hsd1 with rfl | rfl
        · rw [Int.one_mul]
        · rw [Bool.eq_iff_iff]; simp
      have h255 : decide (255 + rr < 256) = la := by
        rw [← hla0, Bool.eq_iff_iff]; simp; (clear ht hn hu hl hll hu' hl' r0 hq hlen hrr r2 r3 eu hrb bq bs bt hsd hsd1 bsd bm2 bst key hkk hla hla0 hk hsr; lia)
      have hn255 : decide (255 + rr ≥ 256) = !la := by
        rw [← hla0, Bool.eq_iff_iff]; simp; (clear ht hn hu hl hll hu' hl' r0 hq hlen hrr r2 r3 eu hrb bq bs bt hsd hsd1 bsd bm2 bst key hkk hla hla0 hk hsr h255; lia)
      have hm255 : decide (255 - rr ≥ 256) = false := by simp; (clear ht hn hu hl hll hu' hl' r0 hq hlen hrr r2 r3 eu hrb bq bs bt hsd hsd1 bsd bm2 bst key hkk hla hla0 hk hsr h255 hn255; lia)
      have hp255 : decide (255 - rr < 256) = true := by simp; (clear ht hn hu hl hll hu' hl' r0 hq hlen hrr r2 r3 eu hrb bq bs bt hsd hsd1 bsd bm2 bst key hkk hla hla0 hk hsr h255 hn255 hm255; lia)
      refine ws_cons (w1_assign (d := .bool la) (Ev.cast (b := .bool ((pre.length : Int) == ((lI due).length : Int) - 1)) (by rw [hll, hk]) (ev_cmp (vl (d := .int (pre.length : Int))) (ev_bin (ev_call_bi pr.len bt_len (evs_cons (vl (d := .lst (lI due))) evs_nil) (call_len_lst (by rw [hll]; (clear ht hu hl hu' hl' r0 hq hrr r1 r2 r3 eu hrb bq bs bt hsd hsd1 bsd bm2 bst key hkk hla hla0 hk hsr h255 hn255 hm255 hp255; lia))) kle rfl) ev_int bin_sub kle) cmp_eq kle)) ?_ rfl)
      refine ws_cons (w1_assign (d := .bool (!la)) (ev_un (vl (d := .bool la)) un_not kle) ?_ rfl)
      refine ws_skip (Ts.cast (by simp [hsr, h255]) (ts_bool (TsAll.or2 (ts_cmp (ev_call (t_ise pr (sd * rr)) (evs_cons (ev_bin vl vl (bin_mul (mulOk_of_bits bsd hrb (by decide))) kle) evs_nil) kle rfl) (vl (d := .bool la)) cmp_isnot_bb kle) (ts_cmp (ev_call (t_ist pr (255 + rr)) (evs_cons (ev_bin ev_int vl bin_add kle) evs_nil) kle rfl) (vl (d := .bool la)) cmp_isnot_bb kle)))) ?_
      refine ws_skip (Ts.cast (by simp [hn255, hm255]) (ts_bool (TsAll.or2 (ts_cmp (ev_call (t_isn pr (255 + rr)) (evs_cons (ev_bin ev_int vl bin_add kle) evs_nil) kle rfl) (vl (d := .bool (!la))) cmp_isnot_bb kle) (ts_cmp (ev_call (t_isn pr (255 - rr)) (evs_cons (ev_bin ev_int vl bin_sub kle) evs_nil) kle rfl) ev_bool cmp_isnot_bb kle)))) ?_
      refine ws_skip (Ts.cast (by simp [hp255]) (ts_cmp (ev_call (t_ist pr (255 - rr)) (evs_cons (ev_bin ev_int vl bin_sub kle) evs_nil) kle rfl) ev_bool cmp_isnot_bb kle)) ?_
      refine ws_last (w1_swap ["upper", "lower"] (ev_tuple (evs_cons (vl (d := .int l')) (evs_cons (vl (d := .int rr)) evs_nil)) kle) (loc2 rfl rfl) rfl rfl ?_)
      exact ⟨pre ++ [q], rest, l', rr, by rw [List.length_append]; rfl, by rw [List.append_assoc]; exact e2, r4, hl', hrb, rfl, rfl, rfl, rfl, trivial⟩
  · rintro ρ' ⟨pre, rest, u', l', e1, e2, hR, hu', hl', hS⟩
    cases rest with
    | cons _ _ => rw [List.length_cons, rngs_succ] at e1; cases e1
    | nil =>
      obtain ⟨rfl, hup⟩ := hR
      exact ⟨rfl, u', hup, hu', hS.1, hS.2.1, trivial⟩
end Mine
/-! N12 -/
namespace Mine
open PySem PySem.W PySem.Spec PySem.Calls PyProof.Rows PySem.SeqAt
open Builtin.Int (intBits)

theorem call_raw {C : Cx} {F : Fx} {ρ : Store} {W : Wt} {s : Shared} {x : Str} {np pos : Pos} {es : List Expr} {ds : List D} {a : Addr} {fd : FuncData} {Q : Value → Shared → Prop} {E : Value → Shared → Prop} (hf : Fn C x a fd) (h : Evs C F ρ pos es ds) (f : Frm C F W ρ s) (hx : F.env.kindOf x = some .globalImplicit)
    (q : ∀ vs s', Ex C s s' → Rps W.hid s'.heap vs ds → wpAny (model C.prog C.w) F.A (call (.ref a) vs) Q E s') (hd : (x == ("__debug__" : Str)) = false := by decide) : wpAny (model C.prog C.w) F.A (eval (.Call (.Name x np) es [] pos) F.env) Q E s :=
  hf.at_.elim fun o h' => wpAny_Call_NameR (global_any f hx hf.mg (Calls.callWith_function (o := o) (fd := fd) (evs_args h f fun vs s' x r => by
    refine ⟨⟨x.gd.keep _ _ h'.1, h'.2⟩, ?_⟩
    show wpAny _ _ (call (.ref a) ([] ++ vs) []) Q E s'
    rw [List.nil_append]
    exact q vs s' x r)) hd)
theorem zde_free {C : Cx} (pr : Pr C) : C.mg (Str.ofString "ZeroDivisionError") = none := pr.no _ (by rw [show bootBuiltins (Str.ofString "ZeroDivisionError") = some (.type "ZeroDivisionError") by with_unfolding_all rfl]; exact nofun) (by decide)
theorem noStart (a : Addr) : ({} : Heap).get? a = none := Heap.get?_none_of_le (Nat.zero_le _)

theorem idm_zero {C : Cx} (pr : Pr C) (h0 : C.hd = none) {u : Int} {A : Around} {hid : Addr → Prop} {s : Shared} {vs : List Value} {Q : Value → Shared → Prop} {E : Value → Shared → Prop} {env1 env0 : Env} {L1 L0 : Addr}
    (hA : A.frames = some [env1, env0]) (hF : s.heap.FunFrames {} [env1, env0]) (e1 : env1.frame = some L1) (e0 : env0.frame = some L0) (hg : ∀ b ∈ [L1, L0], C.gh.get? b = none)
    (rm : Rm C A 2) (g : Gd C s) (bd : Bd hid s) (r : Rps hid s.heap vs [.int u, .int 0]) {a : Addr} (hf : FnD C "int_divmod" a R_idm.params R_idm.body R_idm.scope)
    (q : ∀ e T L s₂ h', Ex C s s₂ → s₂.heap.get? e = none → s₂.heap.get? T = none → s.heap.get? L = none → (∀ b ∈ [L, L1, L0], C.gh.get? b = none ∧ ∃ o, s₂.heap.get? b = some o ∧ ∀ vs, o.data ≠ .fields vs) → (∀ b o, b ∉ [L, L1, L0] → s₂.heap.get? b = some o → h'.get? b = some o) → (∀ b o, b ∈ [L, L1, L0] → s₂.heap.get? b = some o → ∃ sl, h'.get? b = some { o with slots := sl }) → h'.FunFrames {} [env1, env0] → Exn "ZeroDivisionError" e T h' → E (.ref e) { s₂ with heap := h' }) :
    wpAny (model C.prog C.w) A (call (.ref a) vs) Q E s := by
  refine enter_fn pr.ok hf (names := ["a", "b"]) rfl (by decide) rfl (fun pm cd doc vs hl => ?_) (by decide) (k := 1) rm g bd r (fun L cd s₁ W hL hW fr ga => ?_) (hcell := by decide)
  · obtain ⟨v1, v2, rfl⟩ := len_2 hl; rfl
  · refine wpAny_execs_cons (wpAny_If ((ts_cmp (c := (0 : Int) == 0) (vl (d := .int 0)) ev_int cmp_eq kle : Ts C (Fx.fn (envOf "int_divmod" R_idm.scope L a cd) A 1 s hid) _ _ _).go W s₁ _ _ fr fun s₂ x => ?_))
    have fr₂ := fr.ex x
    have x02 : Ex C s s₂ := ⟨x.gd, fun b o n e => x.keep b o n (ga b o e), fun i y e => x.gens i y (fr.gens i y e)⟩
    rw [if_pos (by decide)]
    refine wpAny_execs_cons (Raise_classB (fr₂.rm.h0 h0) excClass_ZeroDivisionError (by rfl) (builtin_any fr₂ rfl (zde_free pr) (by with_unfolding_all rfl) ⟨rfl, rfl⟩) fun h₃ e hn => ?_)
    obtain ⟨oe, tv, ee, ec, ed⟩ := hn.there
    have hFr : h₃.FunFrames {} [envOf "int_divmod" R_idm.scope L a cd, env1, env0] := by
      refine Heap.FunFrames.cons (by show ScopeKind.function ≠ .module; decide) rfl (L := L) (m := W.m) ?_ (noStart _) ?_
      · obtain ⟨ob, q1, q2, q3, q4⟩ := fr₂.ns
        exact ⟨ob, q1, q2, hn.keeps _ _ q3, q4⟩
      · exact hF.of_keeps fun b o e1 hnf => ⟨o, hn.keeps _ _ (x02.keep b o (g.off e1 hnf) e1), rfl⟩
    have hS2 : ∀ b ∈ [L, L1, L0], C.gh.get? b = none ∧ ∃ o, s₂.heap.get? b = some o ∧ ∀ vs, o.data ≠ .fields vs := allC ⟨fr₂.free fr₂.lloc, ns_obj fr₂.ns⟩ fun b hb => by
      have hm : b ∈ [env1, env0].filterMap (·.frame) := by simpa [e1, e0] using hb
      obtain ⟨_, o, ho, hnf⟩ := hF.mem hm
      exact ⟨hg b hb, o, x02.keep b o (g.off ho hnf) ho, hnf⟩
    have hfm : (envOf "int_divmod" R_idm.scope L a cd :: [env1, env0]).filterMap (·.frame) = [L, L1, L0] := by
      simp only [List.filterMap_cons, e1, e0, List.filterMap_nil]; rfl
    refine leave_strong (base := {}) (Around.frames_deeper hA) hFr rfl ee ec ed rfl rfl fun h₄ T hT k1 k2 k3 => ?_
    rw [hfm] at k1 k2
    refine q e T L s₂ h₄ x02 hn.new ?_ hL hS2 (fun b o nb eb => k1 b o (fun z => no_at eb hn.new z) (hn.keeps _ _ eb) nb) (fun b o hb eb => k2 b o hb (hn.keeps _ _ eb)) ?_ k3
    · cases qq : s₂.heap.get? T with
      | none => rfl
      | some o => exact no_at (hn.keeps _ _ qq) hT rfl
    · refine hFr.2.2.of_keeps fun b o eb hnf => ?_
      by_cases hb : b ∈ [L, L1, L0]
      · obtain ⟨sl, e2⟩ := k2 b o hb eb
        exact ⟨_, e2, rfl⟩
      · exact ⟨o, k1 b o (fun z => hnf _ (by rw [z, ee] at eb; rw [← Option.some.inj eb]; exact ed)) eb hb, rfl⟩

theorem FnD.on {C : Cx} {p : Addr × Obj} {x : Str} {a : Addr} {params : Arguments} {body : List Stmt} {scope : Scope} (h : FnD C x a params body scope) : FnD (C.on p) x a params body scope := ⟨h.mg, h.at_⟩
theorem Pr.on {C : Cx} (pr : Pr C) {p : Addr × Obj} (h : C.gh.get? p.1 = none) : Pr (C.on p) :=
  ⟨pr.ok.on h, pr.no, fun x d e => (pr.fn x d e).imp fun zz q => q.on, pr.nt, pr.em, pr.dl⟩
theorem PrC.on {C : Cx} (pc : PrC C) {p : Addr × Obj} : PrC (C.on p) := ⟨pc.i2d.imp fun zz h => ⟨h.mg, h.at_⟩, pc.d2i.imp fun zz h => ⟨h.mg, h.at_⟩, pc.ta, pc.tb⟩
theorem dict_nocode {o : Obj} {es : Array DictEntry} {ep : Nat} (h : o.data = .dict es ep) : NoCode o := fun vs q => by rw [h] at q; cases q

/-- the frame of `_law_run` under the exception that it handles -/
theorem run_catch {C : Cx} (h0 : C.hd = none) {u : Int} {L a L0 Li e T T' : Addr} {cd : Value} {A : Around} {s s₃ s₄ : Shared} {hid : Addr → Prop} {oL : Obj} {es : Array DictEntry} {ep : Nat} {W : Wt} {h₄ h₅ : Heap}
    (f₃ : Frm C (runF L a cd A s hid L0 oL) W [("upper", .val (.int u)), ("lower", .val (.int 0))] s₃) (dL : oL.data = .dict es ep) (x₄ : Ex C s₃ s₄) (hLi : s₃.heap.get? Li = none) (he : s₄.heap.get? e = none) (hT : s₄.heap.get? T = none) (hT' : h₄.get? T' = none)
    (hS4 : ∀ b ∈ [Li, L, L0], C.gh.get? b = none ∧ ∃ o, s₄.heap.get? b = some o ∧ ∀ vs, o.data ≠ .fields vs) (k1 : ∀ b o, b ∉ [Li, L, L0] → s₄.heap.get? b = some o → h₄.get? b = some o) (k2 : ∀ b o, b ∈ [Li, L, L0] → s₄.heap.get? b = some o → ∃ sl, h₄.get? b = some { o with slots := sl })
    (j1 : ∀ b o, b ≠ e → b ≠ T → h₄.get? b = some o → b ∉ [L, L0] → h₅.get? b = some o) (j2 : ∀ b o, b ∈ [L, L0] → h₄.get? b = some o → ∃ sl, h₅.get? b = some { o with slots := sl }) :
    s₃.heap.get? e = none ∧ ∃ sl, ∀ h', (∀ b, b ≠ T' → h'.get? b = h₅.get? b) → Exn "ZeroDivisionError" e T' h' →
      ∃ oe, Frm (C.on (e, oe)) { runF L a cd A s hid L0 { oL with slots := sl } with A := (A.deeper (envOf "_law_run" R_run.scope L a cd)).mark (some (.ref e)) } W [("upper", .val (.int u)), ("lower", .val (.int 0))] { s₄ with heap := h' } := by
  have p := f₃.pins (L0, oL) (.head _)
  have up : ∀ b o, b ≠ Li → b ≠ L → b ≠ L0 → s₄.heap.get? b = some o → h₄.get? b = some o ∧ h₅.get? b = some o := fun b o n1 n2 n3 eb =>
    have q := k1 b o (nm3 n1 n2 n3) eb
    ⟨q, j1 b o (fun z => no_at eb he z) (fun z => no_at eb hT z) q (nm2 n2 n3)⟩
  have upS : ∀ b ∈ [L, L0], ∀ o, s₄.heap.get? b = some o → b ≠ T' ∧ ∃ sl, h₅.get? b = some { o with slots := sl } := fun b hb o eb =>
    (k2 b o (.tail _ hb) eb).elim fun zz q => ⟨fun z => no_at q hT' z, (j2 b _ hb q).imp fun zz q => q⟩
  have nLi : ∀ b o, s₃.heap.get? b = some o → b ≠ Li := fun b o e z => no_at e hLi z
  have nT : ∀ b o, C.off b → s₃.heap.get? b = some o → b ≠ T' := fun b o ho eb => by
    have q4 := x₄.keep b o ho eb
    by_cases h1 : b = L
    · exact (upS b (h1 ▸ .head _) o q4).1
    · by_cases h2 : b = L0
      · exact (upS b (h2 ▸ .tail _ (.head _)) o q4).1
      · exact fun z => no_at (up b o (nLi b o eb) h1 h2 q4).1 hT' z
  have he3 : s₃.heap.get? e = none := by
    cases qq : s₃.heap.get? e with
    | none => rfl
    | some o => exact ((off_or x₄.gd e).elim (fun ho => no_at (x₄.keep e o ho qq) he rfl) fun ⟨o', e'⟩ => no_at e' he rfl)
  refine ⟨he3, ?_⟩
  obtain ⟨_, sl, eL0⟩ := upS L0 (.tail _ (.head _)) oL (x₄.keep _ _ p.2.1 p.1)
  refine ⟨sl, fun h' l1 hx' => ?_⟩
  obtain ⟨oe, ee, ho⟩ := hx'.hd (by decide) (by decide)
  refine ⟨oe, Frm.catch (F := runF L a cd A s hid L0 oL) f₃ h0 (Gd.strong x₄.gd h0 (S := [Li, L, L0]) hS4 fun b o nb eb => ?_) x₄.gens he3 ee ho (fun b o hob n0 n1 eb => ?_) (fun o eo => ?_) ((l1 L0 (nT L0 oL p.2.1 p.1)).trans eL0) (dict_nocode (o := { oL with slots := sl }) dL) rfl (fun x ds z => ?_) rfl⟩
  · have q := k1 b o nb eb
    rw [l1 b fun z => no_at q hT' z]
    exact j1 b o (fun z => no_at eb he z) (fun z => no_at eb hT z) q fun z => nb (.tail _ z)
  · exact (l1 b (nT b o hob eb)).trans (up b o (nLi b o eb) n1 n0 (x₄.keep b o hob eb)).2
  · have oL1 : C.off L := (ns_obj f₃.ns).elim fun zz q => f₃.gd.off q.1 q.2
    exact (upS L (.head _) o (x₄.keep L o oL1 eo)).2.imp fun zz z => (l1 L (nT L o oL1 eo)).trans z
  · exact all2 (P := fun q : Str × Sl => q.2 ≠ .own ds) (fun q => by cases q) (fun q => by cases q) _ (lookup_mem z) rfl

set_option maxHeartbeats 1000000 in
theorem run_call {C : Cx} (pr : Pr C) (pc : PrC C) (h0 : C.hd = none) {t u l : Int} {due : List Int} (ht : t = 1 ∨ t = -1) (hok : RunOk t u l due) (hn : due.length ≤ 1000) (hu : intBits u ≤ 50000) (hl : intBits l ≤ 50000) (hd : ∀ q ∈ due, intBits q ≤ 10000)
    {A : Around} {hid : Addr → Prop} {s : Shared} {vs : List Value} {Q : Value → Shared → Prop} {E : Value → Shared → Prop} {env0 : Env} {L0 : Addr} {oL : Obj} {es : Array DictEntry} {ep : Nat}
    (hA : A.frames = some [env0]) (hk0 : env0.scope.kind ≠ .module) (e0 : env0.frame = some L0) (eL : s.heap.get? L0 = some oL) (dL : oL.data = .dict es ep) (hg0 : C.gh.get? L0 = none) (hid0 : hid L0)
    (rm : Rm C A 31) (g : Gd C s) (bd : Bd hid s) (r : Rps hid s.heap vs [.int u, .int l, .lst (lI due), .int t]) {a : Addr} (hf : FnD C "_law_run" a R_run.params R_run.body R_run.scope)
    (q : ∀ s', Gd C s' → (∀ b o, C.off b → b ≠ L0 → s.heap.get? b = some o → s'.heap.get? b = some o) → (∃ sl, s'.heap.get? L0 = some { oL with slots := sl }) → (∀ (i : Nat) (x : GenState), s.gens[i]? = some x → s'.gens[i]? = some x) → Q (.bool true) s') :
    wpAny (model C.prog C.w) A (call (.ref a) vs) Q E s := by
  refine enter_fn pr.ok hf (names := ["upper", "lower", "due", "turn"]) rfl (by decide) rfl (fun pm cd doc vs hl => ?_) (by decide) (k := 30) rm g bd r (fun L cd s₁ W hL hW fr ga => ?_) (hcell := by decide)
  · obtain ⟨v1, v2, v3, v4, rfl⟩ := len_4 hl; rfl
  · have hLL : L0 ≠ L := fun z => no_at eL hL z
    have fr1 : Frm C (runF L a cd A s hid L0 oL) W (runσ u l t due) s₁ := (fr.hide1 hg0).pinold (ga _ _ eL) (g.off eL (fun vs q => by rw [dL] at q; cases q)) (by rw [hW]; exact .inl hid0) hLL (hideAll_none _ (.head _)) (dict_nocode dL) (fun y c e => by cases e) (fun vs n q => by rw [dL] at q; cases q) (fun p hp => nomatch hp)
    refine wpAny_execs_cons (wpAny_mono ((run_loop pr pc h0 ht hok hn hu hl hd rfl).go W s₁ fr1) (fun fl s₂ he => ?_) fun zz zz x => x.elim)
    refine encl fun Go ret => ?_
    obtain ⟨W₂, ρ₂, fl', f₂, rf, hfl, u', hup, hub, hS⟩ := he
    rw [hfl] at rf
    have hfl2 := rf.of_next
    have f₂ := f₂.sub hS
    obtain ⟨ai, hfi⟩ := pr.fn "int_divmod" _ P_idm.2
    obtain ⟨fdi, hfn⟩ := hfi.fn
    have hfr : (A.deeper (envOf "_law_run" R_run.scope L a cd)).frames = some [envOf "_law_run" R_run.scope L a cd, env0] := Around.frames_deeper hA
    have hgL : C.gh.get? L = none := by
      cases qq : C.gh.get? L with
      | none => rfl
      | some o => exact no_at (g.keep _ _ qq) hL rfl
    have hfm : (envOf "_law_run" R_run.scope L a cd :: [env0]).filterMap (·.frame) = [L, L0] := by
      simp only [List.filterMap_cons, e0, List.filterMap_nil]; rfl
    refine ret ?_
    rw [hfl2]
    refine wpAny_execs_cons (wpAny_Try_except (wpAny_execs_cons (wpAny_Expr_any ?_)))
    refine call_raw hfn (evs_cons (vl (d := .int u')) (evs_cons (vl (d := .int 0)) evs_nil)) f₂ rfl fun vs₃ s₃ x₃ r₃ => ?_
    have f₃ := f₂.ex x₃
    have hFF : s₃.heap.FunFrames {} [envOf "_law_run" R_run.scope L a cd, env0] := ⟨by show ScopeKind.function ≠ .module; decide, (ns_obj f₃.ns).elim fun oN q => ⟨L, oN, rfl, noStart _, q.1, q.2⟩, hk0, ⟨L0, oL, e0, noStart _, (f₃.pins (L0, oL) (.head _)).1, fun vs q => by rw [dL] at q; cases q⟩, trivial⟩
    refine idm_zero pr h0 hfr hFF rfl e0 (all2 hgL hg0) (f₃.rm.mono kle) f₃.gd f₃.bd r₃ hfi fun e T Li s₄ h₄ x₄ he hT hLi hS4 k1 k2 hF4 hx4 => ?_
    refine note_strong (base := {}) hfr hF4 rfl hx4 fun h₅ T' hT' j1 j2 hx5 => ?_
    refine encl fun Go2 ret2 => ?_
    rw [hfm] at j1 j2
    obtain ⟨he3, sl, cat⟩ := run_catch h0 f₃ dL x₄ hLi he hT hT' hS4 k1 k2 j1 j2
    have hge : C.gh.get? e = none := by
      cases qq : C.gh.get? e with
      | none => rfl
      | some o => exact no_at (x₄.gd.keep _ _ qq) he rfl
    obtain ⟨oe5, f₅⟩ := cat h₅ (fun zz zz => rfl) hx5
    refine ret2 ?_
    refine wpAny_handleBy_builtin (X := "ZeroDivisionError") (T := "ZeroDivisionError") (b := true) (by rfl) (by rfl) (by rfl) ?_
    refine builtin_any (C := C.on (e, oe5)) f₅ rfl (zde_free (pr.on hge)) (by with_unfolding_all rfl) ⟨rfl, hx5.typeIs, ?_⟩
    rw [if_pos rfl]
    refine exn_flight (s := { s₄ with heap := h₅ }) hx5 fun h₆ l1 hx6 => (cat h₆ l1 hx6).elim fun oe6 f₆ => ?_
    have T := idm_pos (C := C.on (e, oe6)) (pr.on hge) (pc.on) (a := 0) (b := u') (fun z => absurd rfl z) (by decide) hup (by decide) (Nat.le_trans hub (by decide))
    rw [Int.zero_fdiv, Int.zero_fmod] at T
    refine wpAny_mono (Ws.go (C := C.on (e, oe6)) (F := { runF L a cd A s hid L0 { oL with slots := sl } with A := (A.deeper (envOf "_law_run" R_run.scope L a cd)).mark (some (.ref e)) }) (ρ := [("upper", .val (.int u')), ("lower", .val (.int 0))]) (K := fun fl zz => fl = .ret (.bool true))
      (ws_cons (w1_ret (ev_cmp (ev_call T (evs_cons (vl (d := .int 0)) (evs_cons (vl (d := .int u')) evs_nil)) kle rfl) (ev_tuple (evs_cons (d := .int 0) ev_int (evs_cons (d := .int 0) ev_int evs_nil)) kle) (cmp_teq (ns := [0, 0]) (ms := [0, 0])) kle) rfl)) W₂ _ f₆) (fun fl s₇ hE => hE.ret fun W₇ ρ₇ v hv f₇ rv => ?_) fun zz zz x => x.elim
    rw [hv, rv.bool_inv]
    have ns : ∀ b o, b ≠ L0 → s.heap.get? b = some o → (hideAll s.heap [L0]).get? b = some o := fun b o nb eb => hideAll_get _ eb (nm1 nb)
    exact q s₇ ⟨f₇.gd.keep, f₇.gd.ta, f₇.gd.tb, f₇.gd.os, f₇.gd.bare, fun p hp => by rw [h0] at hp; cases hp⟩
      (fun b o hob nb eb => f₇.sc b o ⟨hob.1, hob.2.1, fun p hp => by cases hp; exact fun z => no_at (f₃.sc b o hob (ns b o nb eb)) he3 z⟩ (ns b o nb eb)) ⟨sl, (f₇.pins (L0, { oL with slots := sl }) (.head _)).1⟩ f₇.gens
end Mine
/-! S1 -/
namespace Mine
open PySem PySem.Sre

/-! ## the matching machine, by steps -/
noncomputable def stepN : Nat → M → M
  | 0, m => m
  | n + 1, m => stepN n m.step
theorem step_done {m : M} (h : m.outcome.isSome = true) : m.step = m := by unfold M.step; rw [if_pos h]
theorem stepN_done {m : M} (h : m.outcome.isSome = true) : ∀ n, stepN n m = m
  | 0 => rfl
  | n + 1 => by rw [stepN, step_done h]; exact stepN_done h n
theorem stepN_add : ∀ (a b : Nat) (m : M), stepN (a + b) m = stepN b (stepN a m)
  | 0, b, m => by rw [Nat.zero_add]; rfl
  | a + 1, b, m => by rw [Nat.succ_add, stepN, stepN, stepN_add a b]
theorem runFor_eq : ∀ (n : Nat) (m : M), m.runFor n = stepN n m
  | 0, m => rfl
  | n + 1, m => by
    show (if m.outcome.isSome = true then m else M.runFor n m.step) = _
    by_cases h : m.outcome.isSome = true
    · rw [if_pos h, stepN, step_done h, stepN_done h]
    · rw [if_neg h, runFor_eq n]; rfl

noncomputable def code1 : Array Nat := #[14, 4, 0, 1, 1, 6, 1, 16, 46, 1]
noncomputable def code3 : Array Nat := #[14, 9, 4, 1, 2, 16, 10, 16, 13, 0, 7, 7, 16, 13, 16, 10, 15, 18, 5, 16, 10, 15, 13, 11, 16, 13, 5, 5, 0, 16, 10, 1, 15, 2, 0, 1]

noncomputable abbrev fst (pc s : Nat) (first : Bool) : Sre.Frame := { wait := .nextStart, pc := pc, pos := s, outermost := first }
noncomputable abbrev kp : Sre.Kept := { lastmark := -1, lastindex := -1, whole := false, marks := #[] }
noncomputable abbrev fbr (pc s : Nat) (out : Bool) : Sre.Frame := { wait := .nextBranch, pc := pc, pos := s, outermost := out, kept := kp }
noncomputable abbrev flk (s : Nat) (out : Bool) : Sre.Frame := { wait := .lookNot, pc := 26, pos := s, outermost := out, kept := kp }
noncomputable abbrev st (code text : Array Nat) (lim start lastStart pc pos handed : Nat) (out : Bool) (frames : List Sre.Frame) (weight : Nat) (ans : Option Bool) (sn : Seen) : M :=
  { code := code, text := text, lim := lim, start := start, lastStart := lastStart, wholeText := false, mustAdvance := false, pc := pc, pos := pos, handed := handed, outermost := out, marks := #[], lastmark := -1, lastindex := -1, loops := #[], inner := none, frames := frames, weight := weight, answer := ans, seen := sn, outcome := none }
section
variable {code text : Array Nat} {lim start lastStart pc pos handed weight : Nat} {out : Bool} {frames : List Sre.Frame} {sn : Seen}

/-- a step over a written sign: how it reads, and its two ends -/
noncomputable def LitStep (m a b : M) (w lim pos : Nat) (text : Array Nat) : Prop := ∃ (sn : Seen) (e : String → M) (f g : Seen → M), f sn = a ∧ g sn = b ∧ m.step = if pos ≥ lim then a else M.exec.match_1 (motive := fun zz => M) (.ok (text.getD pos 0 == w, sn)) e f g
theorem lit_yes {m a b : M} {w : Nat} (q : LitStep m a b w lim pos text) (h : pos < lim) (hc : text[pos]?.getD 0 = w) : m.step = b := by
  obtain ⟨sn, _, f, g, _, h2, e⟩ := q
  rw [e, if_neg (Nat.not_le.mpr h), show (text.getD pos 0 == w) = true by rw [beq_iff_eq, ← hc]; simp]; exact h2
theorem lit_no {m a b : M} {w : Nat} (q : LitStep m a b w lim pos text) (h : ¬ (pos < lim ∧ text[pos]?.getD 0 = w)) : m.step = a := by
  obtain ⟨sn, _, f, g, h2, _, e⟩ := q
  rw [e]
  by_cases h1 : pos < lim
  · rw [if_neg (Nat.not_le.mpr h1), show (text.getD pos 0 == w) = false by rw [beq_eq_false_iff_ne]; intro q; exact h ⟨h1, by rw [← q]; simp⟩]; exact h2
  · rw [if_pos (Nat.not_lt.mp h1)]
theorem at_eq : (st code1 text lim start lastStart 5 pos handed out frames weight none sn).step = if (pos == 0 || text.getD (pos - 1) 0 == 10) = true then st code1 text lim start lastStart 7 pos handed out frames weight none ((sn.add 6).add 44) else st code1 text lim start lastStart 5 pos handed out frames weight (some false) ((sn.add 6).add 44) := rfl
theorem at_iff {pos : Nat} : (pos == 0 || text.getD (pos - 1) 0 == 10) = true ↔ (pos = 0 ∨ text[pos - 1]?.getD 0 = 10) := by simp
theorem s1_at (h : pos = 0 ∨ text[pos - 1]?.getD 0 = 10) : (st code1 text lim start lastStart 5 pos handed out frames weight none sn).step = st code1 text lim start lastStart 7 pos handed out frames weight none ((sn.add 6).add 44) := at_eq.trans (if_pos (at_iff.mpr h))
theorem s1_at_no (h : ¬ (pos = 0 ∨ text[pos - 1]?.getD 0 = 10)) : (st code1 text lim start lastStart 5 pos handed out frames weight none sn).step = st code1 text lim start lastStart 5 pos handed out frames weight (some false) ((sn.add 6).add 44) := at_eq.trans (if_neg fun q => h (at_iff.mp q))
theorem s1_lit : LitStep (st code1 text lim start lastStart 7 pos handed out frames weight none sn) (st code1 text lim start lastStart 7 pos handed out frames weight (Option.some false) (sn.add 16)) (st code1 text lim start lastStart 9 (pos + 1) handed out frames weight none (sn.add 16)) 46 lim pos text := ⟨sn.add 16, _, _, _, rfl, rfl, rfl⟩
theorem s1_ok : (st code1 text lim start lastStart 9 pos handed out frames weight none sn).step = st code1 text lim start lastStart 9 pos pos out frames weight (some true) (sn.add 1) := by cases out <;> rfl
/-! what the frames do with an answer -/
theorem sf_yes {pc0 s0 : Nat} {f : Bool} : (st code text lim start lastStart pc pos handed out [fst pc0 s0 f] 1 (some true) sn).step = st code text lim start lastStart pc0 s0 handed f [] 0 (some true) sn := rfl
theorem sf_end {b : Bool} : (st code text lim start lastStart pc pos handed out [] 0 (some b) sn).step = { st code text lim start lastStart pc pos handed out [] 0 (some b) sn with outcome := some (if b then .matched else .failed) } := rfl
theorem sf_no_eq {s0 : Nat} {f : Bool} : (st code1 text lim start lastStart pc pos handed out [fst 5 s0 f] 1 (some false) sn).step = if s0 < lastStart then st code1 text lim (s0 + 1) lastStart 5 (s0 + 1) (s0 + 1) false [fst 5 (s0 + 1) false] 1 none sn else st code1 text lim start lastStart 5 s0 handed f [] 0 (some false) sn := rfl
theorem sf_no1 {s0 : Nat} {f : Bool} (h : s0 < lastStart) : (st code1 text lim start lastStart pc pos handed out [fst 5 s0 f] 1 (some false) sn).step = st code1 text lim (s0 + 1) lastStart 5 (s0 + 1) (s0 + 1) false [fst 5 (s0 + 1) false] 1 none sn := sf_no_eq.trans (if_pos h)
theorem sf_no1_end {s0 : Nat} {f : Bool} (h : ¬ s0 < lastStart) : (st code1 text lim start lastStart pc pos handed out [fst 5 s0 f] 1 (some false) sn).step = st code1 text lim start lastStart 5 s0 handed f [] 0 (some false) sn := sf_no_eq.trans (if_neg h)

/-! ## a dot ahead of a line -/
noncomputable def Dot (text : Array Nat) (lim q : Nat) : Prop := (q = 0 ∨ text[q - 1]?.getD 0 = 10) ∧ q < lim ∧ text[q]?.getD 0 = 46
noncomputable abbrev at1 (text : Array Nat) (lim s : Nat) (f : Bool) (sn : Seen) : M := st code1 text lim s lim 5 s s f [fst 5 s f] 1 none sn
noncomputable def Ended (m : M) (r : Option (Nat × Nat)) : Prop := match r with
  | some (p, e) => m.outcome = some .matched ∧ m.start = p ∧ m.handed = e
  | none => m.outcome = some .failed
theorem Ended.some {m : M} {r : Option (Nat × Nat)} (h : Ended m r) : m.outcome.isSome = true := by
  cases r with
  | none => rw [show m.outcome = _ from h]; rfl
  | some q => rw [h.1]; rfl
theorem at1_yes {s : Nat} {f : Bool} (h : Dot text lim s) : ∃ sn', stepN 5 (at1 text lim s f sn) = { st code1 text lim s lim 5 s (s + 1) f [] 0 (Option.some true) sn' with outcome := Option.some .matched } := by
  refine ⟨(((sn.add 6).add 44).add 16).add 1, ?_⟩
  simp only [stepN]
  rw [s1_at h.1, lit_yes s1_lit h.2.1 h.2.2, s1_ok, sf_yes, sf_end]
  rfl
theorem at1_no {s : Nat} {f : Bool} (h : ¬ Dot text lim s) (hs : s < lim) : ∃ k sn', k ≤ 3 ∧ stepN k (at1 text lim s f sn) = at1 text lim (s + 1) false sn' := by
  by_cases h1 : s = 0 ∨ text[s - 1]?.getD 0 = 10
  · refine ⟨3, ((sn.add 6).add 44).add 16, Nat.le_refl _, ?_⟩
    simp only [stepN]
    rw [s1_at h1, lit_no s1_lit (fun q => h ⟨h1, q⟩), sf_no1 hs]
  · refine ⟨2, (sn.add 6).add 44, by decide, ?_⟩
    simp only [stepN]
    rw [s1_at_no h1, sf_no1 hs]
theorem at1_last {f : Bool} : ∃ k, k ≤ 4 ∧ Ended (stepN k (at1 text lim lim f sn)) none := by
  by_cases h1 : lim = 0 ∨ text[lim - 1]?.getD 0 = 10
  · refine ⟨4, Nat.le_refl _, ?_⟩
    simp only [stepN]
    rw [s1_at h1, lit_no s1_lit (fun q => absurd q.1 (Nat.lt_irrefl _)), sf_no1_end (Nat.lt_irrefl _), sf_end]
    rfl
  · refine ⟨3, by decide, ?_⟩
    simp only [stepN]
    rw [s1_at_no h1, sf_no1_end (Nat.lt_irrefl _), sf_end]
    rfl
theorem run1 : ∀ (d s : Nat) (f : Bool) (sn : Seen), s + d = lim → ∀ r, (match r with | Option.some (p, e) => s ≤ p ∧ e = p + 1 ∧ Dot text lim p ∧ ∀ q, s ≤ q → q < p → ¬ Dot text lim q | none => ∀ q, s ≤ q → ¬ Dot text lim q) → ∃ k, k ≤ 3 * d + 5 ∧ Ended (stepN k (at1 text lim s f sn)) r := by
  intro d
  induction d with
  | zero =>
    intro s f sn hd r hr
    obtain rfl : s = lim := by omega
    cases r with
    | some pe =>
      obtain ⟨p, e⟩ := pe
      obtain ⟨h1, h2, h3, h4⟩ := hr
      have := h3.2.1; (clear hd; grind)
    | none => obtain ⟨k, hk, he⟩ := at1_last (text := text) (lim := s) (f := f) (sn := sn); exact ⟨k, by (clear hd; lia), he⟩
  | succ d ih =>
    intro s f sn hd r hr
    by_cases hD : Dot text lim s
    · cases r with
      | none => exact absurd hD (hr s (Nat.le_refl _))
      | some pe =>
        obtain ⟨p, e⟩ := pe
        obtain ⟨h1, rfl, h3, h4⟩ := hr
        have : p = s := by
          rcases Nat.lt_or_ge s p with q | q
          · exact absurd hD (h4 s (Nat.le_refl _) q)
          · lia
        subst this
        obtain ⟨sn', e⟩ := at1_yes (f := f) (sn := sn) hD
        exact ⟨5, by (clear hd h1; lia), by rw [e]; exact ⟨rfl, rfl, rfl⟩⟩
    · obtain ⟨k, sn', hk, e⟩ := at1_no (f := f) (sn := sn) hD (by (clear hD; lia))
      obtain ⟨k', hk', e'⟩ := ih (s + 1) false sn' (by (clear hD hk; grind)) r (by
        cases r with
        | none => exact fun q hq => hr q (by (clear hD hk; lia))
        | some pe =>
          obtain ⟨p, e⟩ := pe
          obtain ⟨h1, h2, h3, h4⟩ := hr
          refine ⟨?_, h2, h3, fun q hq => h4 q (by (clear hD hk h1 h2; lia))⟩
          rcases Nat.lt_or_ge s p with q | q
          · exact q
          · have : s = p := by (clear hD hk; lia)
            subst this; exact absurd h3 hD)
      exact ⟨k + k', by (clear hd hD; lia), by rw [stepN_add, e]; exact e'⟩
noncomputable abbrev sn14 : Seen := ({} : Seen).add 14
theorem search1_eq (s : Nat) : forSearch code1 text 0 s lim false = if (decide (s > lim) || decide (lim - s < 1)) = true then st code1 text lim s 0 5 s s true [] 0 (Option.some false) sn14 else at1 text lim s true sn14 := rfl
theorem search1 {s : Nat} (hs : s ≤ lim) (r : Option (Nat × Nat)) (hr : match r with | Option.some (p, e) => s ≤ p ∧ e = p + 1 ∧ Dot text lim p ∧ ∀ q, s ≤ q → q < p → ¬ Dot text lim q | none => ∀ q, s ≤ q → ¬ Dot text lim q) :
    ∃ k, k ≤ 3 * lim + 5 ∧ Ended (stepN k (forSearch code1 text 0 s lim false)) r := by
  rw [search1_eq]
  by_cases h : s = lim
  · subst h
    rw [if_pos (by simp)]
    cases r with
    | some pe => have := hr.2.2.1.2.1; have := hr.1; (clear hs this; grind)
    | none =>
      refine ⟨1, by (clear hs; lia), ?_⟩
      simp only [stepN]
      rw [sf_end]; rfl
  · rw [if_neg (by simp; grind)]
    obtain ⟨k, hk, he⟩ := run1 (lim - s) s true sn14 (by (clear h; grind)) r hr
    exact ⟨k, by (clear h; grind), he⟩

/-! ## the ends of lines -/
theorem s3_branch : (st code3 text lim start lastStart 10 pos handed out frames 1 none sn).step = st code3 text lim start lastStart 12 pos pos out (fbr 11 pos out :: frames) 2 none (sn.add 7) := rfl
theorem s3_jump16 : (st code3 text lim start lastStart 16 pos handed out frames weight none sn).step = st code3 text lim start lastStart 35 pos handed out frames weight none (sn.add 15) := rfl
theorem s3_jump21 : (st code3 text lim start lastStart 21 pos handed out frames weight none sn).step = st code3 text lim start lastStart 35 pos handed out frames weight none (sn.add 15) := rfl
theorem s3_jump32 : (st code3 text lim start lastStart 32 pos handed out frames weight none sn).step = st code3 text lim start lastStart 35 pos handed out frames weight none (sn.add 15) := rfl
theorem s3_ok : (st code3 text lim start lastStart 35 pos handed out frames weight none sn).step = st code3 text lim start lastStart 35 pos pos out frames weight (Option.some true) (sn.add 1) := by cases out <;> rfl
theorem lit12 : LitStep (st code3 text lim start lastStart 12 pos handed out frames weight none sn) (st code3 text lim start lastStart 12 pos handed out frames weight (Option.some false) (sn.add 16)) (st code3 text lim start lastStart 14 (pos + 1) handed out frames weight none (sn.add 16)) 13 lim pos text := ⟨sn.add 16, _, _, _, rfl, rfl, rfl⟩
theorem lit14 : LitStep (st code3 text lim start lastStart 14 pos handed out frames weight none sn) (st code3 text lim start lastStart 14 pos handed out frames weight (Option.some false) (sn.add 16)) (st code3 text lim start lastStart 16 (pos + 1) handed out frames weight none (sn.add 16)) 10 lim pos text := ⟨sn.add 16, _, _, _, rfl, rfl, rfl⟩
theorem lit19 : LitStep (st code3 text lim start lastStart 19 pos handed out frames weight none sn) (st code3 text lim start lastStart 19 pos handed out frames weight (Option.some false) (sn.add 16)) (st code3 text lim start lastStart 21 (pos + 1) handed out frames weight none (sn.add 16)) 10 lim pos text := ⟨sn.add 16, _, _, _, rfl, rfl, rfl⟩
theorem lit24 : LitStep (st code3 text lim start lastStart 24 pos handed out frames weight none sn) (st code3 text lim start lastStart 24 pos handed out frames weight (Option.some false) (sn.add 16)) (st code3 text lim start lastStart 26 (pos + 1) handed out frames weight none (sn.add 16)) 13 lim pos text := ⟨sn.add 16, _, _, _, rfl, rfl, rfl⟩
theorem lit29 : LitStep (st code3 text lim start lastStart 29 pos handed out frames weight none sn) (st code3 text lim start lastStart 29 pos handed out frames weight (Option.some false) (sn.add 16)) (st code3 text lim start lastStart 31 (pos + 1) handed out frames weight none (sn.add 16)) 10 lim pos text := ⟨sn.add 16, _, _, _, rfl, rfl, rfl⟩
theorem s3_not : (st code3 text lim start lastStart 26 pos handed out frames 2 none sn).step = st code3 text lim start lastStart 29 pos pos false (flk pos out :: frames) 3 none (sn.add 5) := rfl
theorem s3_byes {pc0 s0 : Nat} {f o : Bool} : (st code3 text lim start lastStart pc pos handed o (fbr pc0 s0 out :: frames) 2 (Option.some true) sn).step = st code3 text lim start lastStart pc0 s0 handed out frames 1 (Option.some true) sn := rfl
theorem s3_bno11 {s0 : Nat} {o : Bool} : (st code3 text lim start lastStart pc pos handed o (fbr 11 s0 out :: frames) 2 (Option.some false) sn).step = st code3 text lim start lastStart 19 s0 s0 out (fbr 18 s0 out :: frames) 2 none sn := rfl
theorem s3_bno18 {s0 : Nat} {o : Bool} : (st code3 text lim start lastStart pc pos handed o (fbr 18 s0 out :: frames) 2 (Option.some false) sn).step = st code3 text lim start lastStart 24 s0 s0 out (fbr 23 s0 out :: frames) 2 none sn := rfl
theorem s3_lno {s0 : Nat} {o : Bool} : (st code3 text lim start lastStart pc pos handed o (flk s0 out :: frames) 3 (Option.some false) sn).step = st code3 text lim start lastStart 32 s0 handed out frames 2 none sn := rfl
theorem sf_yes3 {s0 : Nat} {f o : Bool} : (st code3 text lim start lastStart pc pos handed o [fst 10 s0 f] 1 (Option.some true) sn).step = st code3 text lim start lastStart 10 s0 handed f [] 0 (Option.some true) sn := rfl

noncomputable def Eol (text : Array Nat) (lim q : Nat) : Prop := q < lim ∧ (text[q]?.getD 0 = 10 ∨ text[q]?.getD 0 = 13)
noncomputable def eolEnd (text : Array Nat) (lim q : Nat) : Nat := if text[q]?.getD 0 = 13 ∧ q + 1 < lim ∧ text[q + 1]?.getD 0 = 10 then q + 2 else q + 1
theorem at3_run {p : Nat} {f : Bool} (h : Eol text lim p) : ∃ k, k ≤ 20 ∧ Ended (stepN k (st code3 text lim p lim 10 p p f [fst 10 p f] 1 none sn)) (Option.some (p, eolEnd text lim p)) := by
  obtain ⟨h1, h2⟩ := h
  by_cases h13 : text[p]?.getD 0 = 13
  · by_cases h10 : p + 1 < lim ∧ text[p + 1]?.getD 0 = 10
    · refine ⟨8, by decide, ?_⟩
      simp only [stepN]
      rw [s3_branch, lit_yes lit12 h1 h13, lit_yes lit14 h10.1 h10.2, s3_jump16, s3_ok, s3_byes (f := f), sf_yes3, sf_end]
      refine ⟨rfl, rfl, ?_⟩
      exact (if_pos (c := text[p]?.getD 0 = 13 ∧ p + 1 < lim ∧ text[p + 1]?.getD 0 = 10) ⟨h13, h10⟩).symm
    · refine ⟨15, by decide, ?_⟩
      simp only [stepN]
      rw [s3_branch, lit_yes lit12 h1 h13, lit_no lit14 h10, s3_bno11, lit_no lit19 (fun q => by rw [h13] at q; exact absurd q.2 (by decide)), s3_bno18, lit_yes lit24 h1 h13, s3_not,
        lit_no lit29 h10, s3_lno, s3_jump32, s3_ok, s3_byes (f := f), sf_yes3, sf_end]
      refine ⟨rfl, rfl, ?_⟩
      exact (if_neg (c := text[p]?.getD 0 = 13 ∧ p + 1 < lim ∧ text[p + 1]?.getD 0 = 10) (fun q => h10 q.2)).symm
  · have h10 := h2.resolve_right h13
    refine ⟨9, by decide, ?_⟩
    simp only [stepN]
    rw [s3_branch, lit_no lit12 (fun q => h13 q.2), s3_bno11, lit_yes lit19 h1 h10, s3_jump21, s3_ok, s3_byes (f := f), sf_yes3, sf_end]
    refine ⟨rfl, rfl, ?_⟩
    exact (if_neg (c := text[p]?.getD 0 = 13 ∧ p + 1 < lim ∧ text[p + 1]?.getD 0 = 10) (fun q => h13 q.1)).symm
theorem inSet_eq (c : Nat) (sn : Seen) : inSet code3 c 36 5 true sn = if (c == 10) = true then .ok (true, sn.add 16) else if (c == 13) = true then .ok (true, (sn.add 16).add 16) else .ok (false, ((sn.add 16).add 16).add 0) := rfl
theorem inSet3 (c : Nat) (sn : Seen) : ∃ sn', inSet code3 c code3.size 5 true sn = .ok (decide (c = 10 ∨ c = 13), sn') := by
  show ∃ sn', inSet code3 c 36 5 true sn = _
  rw [inSet_eq]
  by_cases h10 : c = 10
  · rw [decide_eq_true (.inl h10), if_pos (beq_iff_eq.mpr h10)]
    exact ⟨_, rfl⟩
  · rw [if_neg fun q => h10 (beq_iff_eq.mp q)]
    by_cases h13 : c = 13
    · rw [decide_eq_true (.inr h13), if_pos (beq_iff_eq.mpr h13)]
      exact ⟨_, rfl⟩
    · rw [decide_eq_false (not_or.mpr ⟨h10, h13⟩), if_neg fun q => h13 (beq_iff_eq.mp q)]
      exact ⟨_, rfl⟩
theorem admit3 : ∀ (fuel s : Nat) (sn : Seen) (m : M), m.code = code3 → m.text = text → m.lim = lim → ∀ r : Option Nat, (match r with | Option.some p => s ≤ p ∧ p < s + fuel ∧ Eol text lim p ∧ ∀ q, s ≤ q → q < p → ¬ Eol text lim q | none => ∀ q, s ≤ q → ¬ Eol text lim q) → ∃ sn', m.admitted fuel s sn = .ok (r, sn') := by
  intro fuel
  induction fuel with
  | zero =>
    intro s sn m hc ht hl r hr
    cases r with
    | none => exact ⟨_, rfl⟩
    | some p => have := hr.1; have := hr.2.1; (clear hl this; omega)
  | succ fuel ih =>
    intro s sn m hc ht hl r hr
    show ∃ sn', (if s ≥ m.lim then _ else _) = _
    rw [hc, ht, hl]
    by_cases hs : s ≥ lim
    · rw [if_pos hs]
      cases r with
      | none => exact ⟨_, rfl⟩
      | some p => have := hr.1; have := hr.2.2.1.1; (clear hl; omega)
    · rw [if_neg hs]
      obtain ⟨sn1, e⟩ := inSet3 (text.getD s 0) sn
      have eg : text.getD s 0 = text[s]?.getD 0 := by simp
      rw [e]
      by_cases hD : Eol text lim s
      · rw [decide_eq_true (by rw [eg]; exact hD.2)]
        cases r with
        | none => exact absurd hD (hr s (Nat.le_refl _))
        | some p =>
          have : p = s := by
            rcases Nat.lt_or_ge s p with q | q
            · exact absurd hD (hr.2.2.2 s (Nat.le_refl _) q)
            · have := hr.1; (clear hl hs eg this; lia)
          subst this
          exact ⟨_, rfl⟩
      · rw [decide_eq_false (by rw [eg]; exact fun q => hD ⟨by (clear hl eg hD q; lia), q⟩)]
        exact ih (s + 1) sn1 m hc ht hl r (by
          cases r with
          | none => exact fun q hq => hr q (by (clear hl hs eg hD; lia))
          | some p =>
            obtain ⟨h1, h2, h3, h4⟩ := hr
            refine ⟨?_, by (clear hl hs eg hD h1; lia), h3, fun q hq => h4 q (by (clear hl hs eg hD h1 h2; lia))⟩
            rcases Nat.lt_or_ge s p with q | q
            · exact q
            · have : s = p := by (clear hl hs eg hD h2; lia)
              subst this; exact absurd h3 hD)
noncomputable abbrev m3 (text : Array Nat) (lim s : Nat) : M := st code3 text lim s lim 10 s s true [] 0 none sn14
theorem search3_eq (s : Nat) : forSearch code3 text 0 s lim false = if (decide (s > lim) || decide (lim - s < 1)) = true then st code3 text lim s 0 10 s s true [] 0 (Option.some false) sn14 else (m3 text lim s).attemptFrom s true := rfl
theorem search3 {s : Nat} (hs : s ≤ lim) (r : Option (Nat × Nat)) (hr : match r with | Option.some (p, e) => s ≤ p ∧ e = eolEnd text lim p ∧ Eol text lim p ∧ ∀ q, s ≤ q → q < p → ¬ Eol text lim q | none => ∀ q, s ≤ q → ¬ Eol text lim q) :
    ∃ k, k ≤ 20 ∧ Ended (stepN k (forSearch code3 text 0 s lim false)) r := by
  rw [search3_eq]
  by_cases h : s = lim
  · subst h
    rw [if_pos (by simp)]
    cases r with
    | some pe => have := hr.2.2.1.1; have := hr.1; (clear hs this; omega)
    | none =>
      refine ⟨1, by (clear hs; lia), ?_⟩
      simp only [stepN]
      rw [sf_end]; rfl
  · rw [if_neg (by simp; lia)]
    have hf : ∀ m : M, m.code = code3 → m.hasFirstSet = true := fun m e => by unfold M.hasFirstSet; rw [e]; rfl
    unfold M.attemptFrom
    rw [hf _ rfl]
    cases r with
    | none =>
      obtain ⟨sn', e⟩ := admit3 (text := text) (lim := lim) (lim + 1 - s) s sn14 (m3 text lim s) rfl rfl rfl none hr
      refine ⟨1, by (clear hs h; lia), ?_⟩
      simp only [stepN]
      rw [show (m3 text lim s).lim + 1 - s = lim + 1 - s from rfl, e]
      show Ended (M.step (st code3 text lim s lim 10 s s true [] 0 (Option.some false) sn')) none
      rw [sf_end]; rfl
    | some pe =>
      obtain ⟨p, e'⟩ := pe
      obtain ⟨h1, rfl, h3, h4⟩ := hr
      obtain ⟨sn', e⟩ := admit3 (text := text) (lim := lim) (lim + 1 - s) s sn14 (m3 text lim s) rfl rfl rfl (Option.some p) ⟨h1, by have := h3.1; (clear h h1; omega), h3, h4⟩
      rw [show (m3 text lim s).lim + 1 - s = lim + 1 - s from rfl, e]
      exact at3_run (text := text) (lim := lim) (sn := sn') (f := true) h3
end
end Mine
/-! S2 -/
namespace Mine
open PySem PySem.W PySem.Spec PySem.Calls PyProof.Rows PySem.SeqAt
open PySem.Builtin PySem.Builtin.Re

/-! ## the matching machine in the model -/
section
variable {M : Model} {A : Around} {E : Value → Shared → Prop} {s : Shared}
theorem wpAny_pos {α : Type} {c : Prop} [Decidable c] {t e : Sem α} {Q : α → Shared → Prop} (h : c) (x : wpAny M A t Q E s) : wpAny M A (if c then t else e) Q E s := by rw [if_pos h]; exact x
theorem wpAny_neg {α : Type} {c : Prop} [Decidable c] {t e : Sem α} {Q : α → Shared → Prop} (h : ¬ c) (x : wpAny M A e Q E s) : wpAny M A (if c then t else e) Q E s := by rw [if_neg h]; exact x
/-- a loop over a range that leaves the state as it is -/
theorem wpAny_range {β : Type} {f : Nat → β → Sem (ForInStep β)} (inv : Nat → β) {Q : β → Shared → Prop} : ∀ (n m : Nat), (∀ k, m ≤ k → k < m + n → ∀ R : ForInStep β → Shared → Prop, R (.yield (inv (k + 1))) s → wpAny M A (f k (inv k)) R E s) → Q (inv (m + n)) s → wpAny M A (forIn (List.range' m n) (inv m) f) Q E s := by
  intro n
  induction n with
  | zero => intro m _ q; exact wpAny_pure q
  | succ n ih =>
    intro m turn q
    rw [List.range'_succ, List.forIn_cons]
    exact wpAny_bind (turn m (Nat.le_refl _) (by lia) _ (ih (m + 1) (fun k h1 h2 => turn k (by lia) (by lia)) (by rw [Nat.succ_add]; exact q)))
end

section
variable {M : Model} {A : Around} {E : Value → Shared → Prop} {s : Shared}
theorem drive_any : ∀ (turns : Nat) (m : Sre.M) (n : Nat) (Q : Sre.M → Shared → Prop), n ≤ 4 * turns → 0 < turns → (stepN n m).outcome.isSome = true → Q (stepN n m) s → wpAny M A (reDrive turns m) Q E s := by
  intro turns
  induction turns with
  | zero => intro m n Q hn h0; exact absurd h0 (Nat.lt_irrefl 0)
  | succ turns ih =>
    intro m n Q hn h0 ho q
    unfold reDrive
    rw [show reTurnSteps = 4 from rfl, runFor_eq]
    dsimp only
    by_cases hm : (stepN 4 m).outcome.isSome = true
    · rw [if_pos hm]
      have e : stepN n m = stepN 4 m := by
        rcases Nat.le_total n 4 with h | h
        · rw [← Nat.add_sub_cancel' h, stepN_add, stepN_done ho]
        · rw [← Nat.add_sub_cancel' h, stepN_add, stepN_done hm]
      exact wpAny_pure (e ▸ q)
    · rw [if_neg hm]
      have h4 : 4 < n := by
        apply Nat.lt_of_not_le
        intro h
        apply hm
        rw [← Nat.add_sub_cancel' h, stepN_add, stepN_done ho]; exact ho
      have e : stepN n m = stepN (n - 4) (stepN 4 m) := by rw [← stepN_add, Nat.add_sub_cancel' (Nat.le_of_lt h4)]
      exact wpAny_bind (wpAny_rule (ih (stepN 4 m) (n - 4) Q (by (clear h0 ho hm; lia)) (by (clear h0 ho hm; lia)) (e ▸ ho) (e ▸ q)))
theorem end_any {m : Sre.M} {r : Option (Nat × Nat)} {Q : Option Sre.M → Shared → Prop} {n : Nat} (hn : n ≤ 2 ^ 60) (h : Ended (stepN n m) r) (q : match r with | some (p, e) => ∀ m', m'.start = p → m'.handed = e → Q (some m') s | none => Q none s) : wpAny M A (reRunToEnd m) Q E s := by
  unfold reRunToEnd
  refine wpAny_bind (drive_any (2 ^ 64) m n _ (by lia) (by decide) h.some (wpAny_bind ?_))
  refine wpAny_forIn_list _ (fun zz zz s' => s' = s) _ (fun x rest b s' h => ?_) (fun b s' h' => ?_) (List.range Sre.names.size) _ rfl
  · subst h
    split
    · exact wpAny_bind (wpAny_rule (wpAny_pure rfl))
    · exact wpAny_pure rfl
  subst h'
  cases r with
  | none =>
    rw [show (stepN n m).outcome = _ from h]
    exact wpAny_pure q
  | some pe =>
    obtain ⟨p, e⟩ := pe
    rw [h.1]
    exact wpAny_pure (q _ h.2.1 h.2.2)
end

/-! ## texts of both kinds -/
inductive Td where
  | str (x : Str)
  | byt (x : Array UInt8)
noncomputable def Td.val : Td → Tok → Value
  | .str x, t => .str x t
  | .byt x, t => .bytes x t
noncomputable def Td.txt : Td → Array Nat
  | .str x => x.cps
  | .byt x => x.map (·.toNat)
noncomputable def Td.kind : Td → Nat
  | .str _ => 0
  | .byt _ => 1
noncomputable def Td.sl : Td → Nat → Nat → Td
  | .str x, b, e => .str ⟨x.cps.extract b e⟩
  | .byt x, b, e => .byt (x.extract b e)
noncomputable def Td.D : Td → D
  | .str x => .str x
  | .byt x => .bytes x
theorem Td.rp {hid : Addr → Prop} {h : Heap} (d : Td) (t : Tok) : Rp hid h (d.val t) d.D := by cases d <;> constructor
theorem Td.inv {hid : Addr → Prop} {h : Heap} {d : Td} {v : Value} (r : Rp hid h v d.D) : ∃ t, v = d.val t := by
  cases d with
  | str x => exact r.str_inv
  | byt x => exact r.bytes_inv
section
variable {M : Model} {A : Around} {E : Value → Shared → Prop} {s : Shared}
theorem text_any {d : Td} {t : Tok} {Q : Array Nat × Nat → Shared → Prop} (q : Q (d.txt, d.kind) s) : wpAny M A (reTextOf (d.val t)) Q E s := by
  cases d with
  | str x => exact wpAny_of_eq (a := (x.cps, 0)) rfl q
  | byt x =>
    unfold reTextOf
    refine wpAny_bind (wpAny_of_eq (a := none) rfl ?_)
    refine wpAny_bind (wpAny_of_eq KBy.quiet_eq ?_)
    exact wpAny_pure q
theorem slice_any' {d : Td} {b e : Nat} {Q : Value → Shared → Prop} (hz : d.txt.size ≤ 1048576) (q : Q ((d.sl b e).val s.toks) { s with toks := s.toks + 1 }) : wpAny M A (reSlice d.txt d.kind b e) Q E s := by
  have hs : (1048576 : Nat) ≤ sizeLine := by decide
  cases d with
  | str x => 
    have hz : x.cps.size ≤ 1048576 := hz
    exact wpAny_mkStr (x := ⟨x.cps.extract b e⟩) q (by show (x.cps.extract b e).size ≤ _; rw [Array.size_extract]; omega)
  | byt x =>
    have hz : (x.map (·.toNat)).size ≤ 1048576 := hz
    rw [Array.size_map] at hz
    show wpAny M A (mkBytes _) Q E s
    have ee : ((x.map (·.toNat)).extract b e).map (·.toUInt8) = x.extract b e := by
      rw [← Array.map_extract, Array.map_map]
      conv => rhs; rw [← Array.map_id (x.extract b e)]
      congr 1
      funext y
      simp
    show wpAny M A (mkBytes (((x.map (·.toNat)).extract b e).map (·.toUInt8))) Q E s
    rw [ee]
    exact wpAny_mkBytes q (by rw [Array.size_extract]; omega)
theorem nocol_any {d : Td} {t : Tok} {Q : Unit → Shared → Prop} (q : Q () s) : wpAny M A (reNoCollectionInside (d.val t) d.kind) Q E s := by
  cases d with
  | str x => exact wpAny_pure q
  | byt x =>
    unfold reNoCollectionInside
    rw [if_pos (show ((Td.byt x).kind == 1) = true from rfl)]
    refine wpAny_bind (wpAny_of_eq KBy.isInstance_eq ?_)
    rw [if_neg (by decide)]
    exact wpAny_pure q
theorem lit_any {d : Td} {t : Tok} {Q : Unit → Shared → Prop} (q : Q () s) : wpAny M A (reLiteralCannotBeTurned (d.val t)) Q E s := by
  cases d with
  | str x => exact wpAny_pure q
  | byt x =>
    unfold reLiteralCannotBeTurned
    refine wpAny_bind (wpAny_of_eq (a := none) rfl ?_)
    rw [if_pos (show (none : Option Str).isNone = true from rfl)]
    refine wpAny_bind (wpAny_of_eq KBy.isInstance_eq ?_)
    rw [if_neg (by decide)]
    exact wpAny_pure q

/-- a compiled pattern -/
structure PatO (h : Heap) (a : Addr) (code : Array Nat) (kind : Nat) : Prop where
  at_ : ∃ (fs ws : Array Value) (T : Addr) (n : Nat), h.get? a = some ({ cls := .type "re.Pattern", data := .fields fs } : Obj) ∧ h.get? T = some ({ cls := .type "tuple", data := .seq ws n } : Obj) ∧ fs.getD 5 .none = .ref T ∧ reRawNat (fs.getD 2 .none) = 0 ∧ reRawNat (fs.getD 6 .none) = kind ∧ (ws.map reRawOf).map (·.toNat) = code
theorem whole_any {d : Td} {t : Tok} {a : Addr} {code : Array Nat} {Q : ReTarget → Shared → Prop} (p : PatO s.heap a code d.kind) (q : Q { pattern := .ref a, string := d.val t, code := code, text := d.txt, kind := d.kind, groups := 0, pos := 0, lim := d.txt.size } s) : wpAny M A (reWholeTarget (.ref a) (d.val t)) Q E s := by
  obtain ⟨fs, ws, T, n, h1, h2, h3, h4, h5, h6⟩ := p.at_
  unfold reWholeTarget
  refine wpAny_bind (wpAny_fieldsOf h1 rfl (wpAny_bind (text_any ?_)))
  dsimp only
  rw [h5, h4, h3]
  have key : ∀ (X : Sem ReTarget), wpAny M A X Q E s → wpAny M A (do
      if (d.kind == 0 && d.kind == 1) = true then raiseError "TypeError" "cannot use a string pattern on a bytes-like object"
      if (d.kind == 1 && d.kind == 0) = true then raiseError "TypeError" "cannot use a bytes pattern on a string-like object"
      X) Q E s := fun X hX => by
    cases d <;> exact hX
  refine key _ ?_
  refine wpAny_bind (nocol_any ?_)
  unfold reRawItems
  refine wpAny_bind (wpAny_bind (wpAny_seqItems h2 rfl (wpAny_pure ?_)))
  rw [Option.getD_some, h6]
  exact wpAny_pure q
end
end Mine
/-! S3 -/
namespace Mine
open PySem PySem.W PySem.Spec PySem.Calls PyProof.Rows PySem.SeqAt
open PySem.Builtin PySem.Builtin.Re

theorem slot_bytes_join : Slot "bytes" "join" "bytes.join" :=
  .of (owner := "bytes") (n := "join") (by rw [typeLookup_type, builtinLookup_eq_fast]; kernel_rfl) (by decide +kernel) (by decide +kernel) (by decide +kernel)
    (by first | exact .inl (by decide +kernel) | exact .inr (by decide +kernel)) (by rw [isSubtype_type]; kernel_rfl)
theorem entry_bytes_join : entryFor table "bytes.join" = some Builtin.«bytes.join» := entryFor_of_tree (by kernel_rfl)
theorem args_bytes_join_2 (a b : Value) : argsOk "bytes.join" ⟨[a, b], []⟩ := by unfold argsOk; kernel_rfl

section
variable {M : Model} {A : Around} {E : Value → Shared → Prop} {s : Shared}
noncomputable abbrev bvs (ws : List (Array UInt8 × Tok)) : Array Value := (ws.map fun p => Value.bytes p.1 p.2).toArray
noncomputable abbrev tkn (ws : List (Array UInt8 × Tok)) : List (Value × Option Value) := ws.map fun p => (Value.bytes p.1 p.2, none)
theorem tkn_quiet (ws : List (Array UInt8 × Tok)) : (tkn ws).any (fun x => x.1.onHeap) = false := by
  induction ws with
  | nil => rfl
  | cons p r ih => simpa [tkn, Value.onHeap] using ih
theorem take_any {id : String} {x : Array UInt8} {t : Tok} {Q : Option (Array UInt8 × Option Value) → Shared → Prop} (q : Q (some (x, none)) s) : wpAny M A (Bytes.takeBufferQuiet? id (.bytes x t) 0) Q E s := by
  unfold Bytes.takeBufferQuiet?
  refine wpAny_bind (wpAny_attempt ?_)
  unfold Bytes.takeBuffer?
  rw [KBy.special_eq KBy.look_buffer, KBy.own_buffer]
  refine wpAny_bind (wpAny_pure ?_)
  refine wpAny_bind (wpAny_pure ?_)
  rw [if_neg (by decide)]
  refine wpAny_bind (wpAny_pure ?_)
  refine wpAny_bind (wpAny_of_eq KBy.buffer_eq ?_)
  exact wpAny_pure (wpAny_pure q)
theorem letgo_any (ws : List (Array UInt8 × Tok)) {keep : List Value} {Q : Unit → Shared → Prop} (q : Q () s) : wpAny M A (Bytes.joinLetGo (tkn ws) keep) Q E s := by
  induction ws generalizing keep with
  | nil => exact wpAny_pure q
  | cons p ws ih =>
    show wpAny M A (Bytes.joinLetGo ((Value.bytes p.1 p.2, none) :: tkn ws) keep) Q E s
    unfold Bytes.joinLetGo
    exact wpAny_bind (wpAny_letGo ih)
end
noncomputable def bjoined (ws : List (Array UInt8)) : Array UInt8 := match ws with
  | [x] => x
  | ws => Bytes.joined #[] ws
section
variable {prog : Program} {w : World} {A : Around} {E : Value → Shared → Prop} {s : Shared}
theorem bjoin_any {ws : List (Array UInt8 × Tok)} {t : Tok} {l : Addr} {n : Nat} {Q : Value → Shared → Prop} (hl : s.heap.get? l = some ({ cls := .type "list", data := .seq (bvs ws) n } : Obj))
    (hz : Bytes.tooLong (((ws.map (·.1)).toArray).foldl (fun x1 x2 => x1 + x2.size) 0) = false) (hz2 : (Bytes.joined #[] (ws.map (·.1))).size ≤ sizeLine)
    (q : ∀ t' k, Q (.bytes (bjoined (ws.map (·.1))) t') { s with toks := k }) : wpAny (model prog w) A (call (.builtin "bytes.join") [.bytes #[] t, .ref l]) Q E s := by
  refine call_meets (S := fun A R s₁ => s₁ = s ∧ ∀ t' k, R (.ok (.ret (.bytes (bjoined (ws.map (·.1))) t'))) { s with toks := k }) slot_bytes_join (typeIs_bytes _ _ _) entry_bytes_join (args_bytes_join_2 _ _) ?_ ⟨rfl, q⟩
  refine Meets.of_wp fun prog w A R s₁ h => ?_
  obtain ⟨rfl, q⟩ := h
  have hT : s₁.TypeIs (.ref l) "list" := ⟨_, hl, rfl⟩
  unfold «bytes.join» Bytes.joinM
  refine wpAny_bind (wpAny_of_eq (a := (Value.bytes #[] t, Value.ref l)) rfl ?_)
  refine wpAny_pos rfl ?_
  unfold Bytes.joinItems
  refine wpAny_bind (wpAny_bind (wpAny_typeOf hT (wpAny_pos (by decide) (wpAny_pure ?_))))
  refine wpAny_bind (wpAny_seqItems hl rfl ?_)
  refine wpAny_pos rfl ?_
  cases ws with
  | nil =>
    refine wpAny_bind ?_
    rw [Std.Legacy.Range.forIn_eq_forIn_range']
    refine wpAny_pure ?_
    refine wpAny_bind (wpAny_of_eq (a := #[]) rfl ?_)
    refine wpAny_neg (fun q => Bool.noConfusion (hz.symm.trans q)) ?_
    refine wpAny_bind (wpAny_mkBytes ?_ hz2)
    exact wpAny_bind (wpAny_holding (wpAny_point (wpAny_bind (letgo_any [] (wpAny_pure ⟨_, rfl, q _ _⟩)))))
  | cons p ws => cases ws with
    | nil =>
      refine wpAny_bind (wpAny_typeOf (typeIs_bytes _ _ _) (wpAny_pos (by decide) ?_))
      exact wpAny_bind (wpAny_rule (wpAny_pure ⟨_, rfl, q p.2 s₁.toks⟩))
    | cons p2 r =>
      have q : ∀ t' k, R (.ok (.ret (.bytes (Bytes.joined #[] ((p :: p2 :: r).map (·.1))) t'))) { s₁ with toks := k } := q
      refine wpAny_bind ?_
      generalize p :: p2 :: r = ws at hl hz hz2 q ⊢
      rw [Std.Legacy.Range.forIn_eq_forIn_range']
      have hsz : Std.Legacy.Range.size ⟨0, (bvs ws).size, 1, Nat.one_pos⟩ = ws.length := by simp [bvs, Std.Legacy.Range.size]
      rw [hsz]
      refine wpAny_range (fun k => (((ws.take k).map (·.1)).toArray, tkn (ws.take k))) ws.length 0 (fun x zz hk R h => ?_) ?_
      · have hk : x < ws.length := by rw [Nat.zero_add] at hk; exact hk
        have hg : ws[x]? = some ws[x] := List.getElem?_eq_getElem hk
        refine wpAny_bind (wpAny_seqItems hl rfl ?_)
        dsimp only
        rw [show (bvs ws).getD x Value.none = .bytes ws[x].1 ws[x].2 by simp [bvs, hk]]
        refine wpAny_neg (by rw [tkn_quiet]; decide) ?_
        refine wpAny_bind (wpAny_holding (take_any ?_))
        refine wpAny_bind (wpAny_seqItems hl rfl (wpAny_neg (by simp) (wpAny_pure ?_)))
        have et : ws.take (x + 1) = ws.take x ++ [ws[x]] := by rw [List.take_add_one, hg]; rfl
        rw [et] at h
        simp only [tkn, List.map_append, List.map_cons, List.map_nil, List.push_toArray] at h ⊢
        exact h
      · rw [Nat.zero_add, List.take_length]
        refine wpAny_bind (wpAny_of_eq (a := #[]) rfl ?_)
        refine wpAny_neg (by rw [show (#[] : Array UInt8).size * ((ws.map (·.1)).toArray.size - 1) = 0 by simp, hz]; exact nofun) ?_
        refine wpAny_bind (wpAny_mkBytes ?_ (by simpa using hz2))
        exact wpAny_bind (wpAny_holding (wpAny_point (wpAny_bind (letgo_any ws (wpAny_pure ⟨_, rfl, q _ _⟩)))))
end
end Mine
/-! S4 -/
namespace Mine
open PySem PySem.W PySem.Spec PySem.Calls PyProof.Rows PySem.SeqAt
open PySem.Builtin PySem.Builtin.Re

noncomputable def Td.toS : Td → Str
  | .str x => x
  | .byt _ => ⟨#[]⟩
noncomputable def Td.toB : Td → Array UInt8
  | .byt x => x
  | .str _ => #[]
noncomputable def Td.cat (x : Td) (ws : List Td) : Td := match x with
  | .str _ => .str (Txt.join ⟨#[]⟩ (ws.map Td.toS))
  | .byt _ => .byt (bjoined (ws.map Td.toB))
noncomputable def tds (ys : List (Td × Tok)) : List Value := ys.map fun p => p.1.val p.2
noncomputable def Fnd (code : Array Nat) (x : Td) (d : Nat) (r : Option (Nat × Nat)) : Prop := ∃ k, k ≤ 2 ^ 40 ∧ Ended (stepN k (Sre.forSearch code x.txt 0 d x.txt.size false)) r
inductive Res (code : Array Nat) (x r : Td) : Nat → List Td → Prop
  | stop {d : Nat} : Fnd code x d none → Res code x r d (if d < x.txt.size then [x.sl d x.txt.size] else [])
  | more {d p e : Nat} {l : List Td} : Fnd code x d (some (p, e)) → p < e → e ≤ x.txt.size → Res code x r e l → Res code x r d ((if d < p then [x.sl d p] else []) ++ r :: l)
theorem sl_kind (x : Td) (b e : Nat) : (x.sl b e).kind = x.kind := by cases x <;> rfl
theorem res_kind {code : Array Nat} {x r : Td} (hk : r.kind = x.kind) {d : Nat} {l : List Td} (h : Res code x r d l) : ∀ y ∈ l, y.kind = x.kind := by
  induction h with
  | stop _ =>
    intro y hy
    split at hy
    · rcases List.mem_cons.mp hy with rfl | hy
      · exact sl_kind _ _ _
      · cases hy
    · cases hy
  | more _ _ _ _ ih =>
    intro y hy
    rcases List.mem_append.mp hy with hy | hy
    · split at hy
      · rcases List.mem_cons.mp hy with rfl | hy
        · exact sl_kind _ _ _
        · cases hy
      · cases hy
    · rcases List.mem_cons.mp hy with rfl | hy
      · exact hk
      · exact ih y hy
noncomputable def szs (l : List Td) : Nat := (l.map fun y => y.txt.size + 1).sum
theorem szs_append (a b : List Td) : szs (a ++ b) = szs a + szs b := by simp [szs]
theorem entry_sub_loop : entryFor table "re.Pattern.sub.loop" = some Builtin.«re.Pattern.sub.loop» := entryFor_of_tree (by kernel_rfl)

section
variable {C : Cx} {A : Around} {E : Value → Shared → Prop} {s : Shared}
/-- an item is put to the pieces -/
theorem push_any {l : Addr} {vs : Array Value} {n : Nat} {v : Value} {Q : Unit → Shared → Prop} (g : Gd C s) (hg : C.gh.get? l = none) (hl : s.heap.get? l = some ({ cls := .type "list", data := .seq vs n } : Obj)) (hz : vs.size ≤ 1048576)
    (q : ∀ s' n', Gd C s' → s'.toks = s.toks → s'.gens = s.gens → (∀ b o, b ≠ l → s.heap.get? b = some o → s'.heap.get? b = some o) → s'.heap.get? l = some ({ cls := .type "list", data := .seq (vs.push v) n' } : Obj) → Q () s') : wpAny (model C.prog C.w) A (updateSeq l (·.push v)) Q E s := by
  have hs : (1048576 : Nat) ≤ sizeLine := by decide
  refine wpAny_updateSeq hl rfl (q _ _ ?_ rfl rfl ?_ (Heap.get?_update_self _ hl rfl)) (by lia) (by rw [Array.size_push]; lia)
  · exact Gd.same g (g.off hl (fun zz q => by cases q)) hl (fun zz q => by cases q) hg fun b o nb e => (Heap.get?_update_other _ _ (Ne.symm nb)).trans e
  · exact fun b o nb e => (Heap.get?_update_other _ _ (Ne.symm nb)).trans e
end
end Mine
/-! S5 -/
namespace Mine
open PySem PySem.W PySem.Spec PySem.Calls PyProof.Rows PySem.SeqAt
open PySem.Builtin PySem.Builtin.Re

section
variable {C : Cx} {A : Around} {E : Value → Shared → Prop}
/-- a slice is put to the pieces, if there is one -/
theorem slicepush_any {x : Td} {l : Addr} {b e : Nat} {Q : Unit → Shared → Prop} {s : Shared} {ys : List (Td × Tok)} {n : Nat} (hz : x.txt.size ≤ 1048576) (g : Gd C s) (hg : C.gh.get? l = none) (hl : s.heap.get? l = some ({ cls := .type "list", data := .seq (tds ys).toArray n } : Obj)) (hzy : ys.length ≤ 1048576)
    (q : ∀ s' n' ys', Gd C s' → s'.gens = s.gens → (∀ b o, b ≠ l → s.heap.get? b = some o → s'.heap.get? b = some o) → s'.heap.get? l = some ({ cls := .type "list", data := .seq (tds ys').toArray n' } : Obj) → ys'.map (·.1) = ys.map (·.1) ++ (if b < e then [x.sl b e] else []) → Q () s') :
    wpAny (model C.prog C.w) A (if b < e then (do updateSeq l (·.push (← reSlice x.txt x.kind b e))) else pure ()) Q E s := by
  by_cases h : b < e
  · rw [if_pos h]
    refine wpAny_bind (slice_any' hz ?_)
    refine push_any (s := { s with toks := s.toks + 1 }) (C := C) ⟨g.keep, g.ta, g.tb, g.os, g.bare, g.hx⟩ hg hl (by simpa [tds] using hzy) fun s' n' g' e1 e2 e3 e4 => ?_
    refine q s' n' (ys ++ [(x.sl b e, s.toks)]) g' e2 e3 ?_ ?_
    · rw [e4]; simp [tds]
    · rw [if_pos h]; simp
  · rw [if_neg h]
    exact wpAny_pure (q s n ys g rfl (fun zz zz zz e => e) hl (by rw [if_neg h, List.append_nil]))
theorem joined_eq (ws : List (Array UInt8)) : Bytes.joined #[] ws = (ws.flatMap (·.toList)).toArray := by
  unfold Bytes.joined
  have key : ∀ (ws : List (Array UInt8)) (k : Nat) (acc : Array UInt8), (ws.zipIdx k).foldl (fun out (x : Array UInt8 × Nat) => (if x.2 > 0 then out ++ (#[] : Array UInt8) else out) ++ x.1) acc = acc ++ (ws.flatMap (·.toList)).toArray := by
    intro ws
    induction ws with
    | nil => intro k acc; simp
    | cons w ws ih =>
      intro k acc
      rw [List.zipIdx_cons, List.foldl_cons, ih]
      have : (if k > 0 then acc ++ (#[] : Array UInt8) else acc) = acc := by split <;> simp
      simp only [this]
      rw [List.flatMap_cons, Array.append_assoc, ← List.append_toArray]
  simpa using key ws 0 #[]
theorem bjoined_eq (ws : List (Array UInt8)) : bjoined ws = (ws.flatMap (·.toList)).toArray := by
  rcases ws with _ | ⟨w, _ | ⟨v, r⟩⟩
  · rfl
  · simp [bjoined]
  · exact joined_eq _
theorem flat_size (ws : List (Array UInt8)) : (ws.flatMap (·.toList)).length = (ws.map (·.size)).sum := by
  induction ws with
  | nil => rfl
  | cons w ws ih => simp [ih]
theorem foldl_sizes (ws : List (Array UInt8)) : (ws.toArray).foldl (fun x1 x2 => x1 + x2.size) 0 = (ws.map (·.size)).sum := by
  have key : ∀ (ws : List (Array UInt8)) (n : Nat), ws.foldl (fun x1 x2 => x1 + x2.size) n = n + (ws.map (·.size)).sum := by
    intro ws
    induction ws with
    | nil => intro n; rfl
    | cons w ws ih => intro n; rw [List.foldl_cons, ih, List.map_cons, List.sum_cons]; lia
  rw [List.foldl_toArray, key]; lia
theorem strs_are : ∀ (ys : List (Td × Tok)), (∀ y ∈ ys, y.1.kind = 0) → StrsAre (tds ys) (ys.map fun y => y.1.toS)
  | [], _ => .nil
  | (.str x, t) :: r, h => .cons x t (strs_are r fun y hy => h y (.tail _ hy))
  | (.byt x, t) :: r, h => absurd (h _ (.head _)) nofun
theorem byts_are : ∀ (ys : List (Td × Tok)), (∀ y ∈ ys, y.1.kind = 1) → ∃ ws : List (Array UInt8 × Tok), (tds ys).toArray = bvs ws ∧ ws.map (·.1) = ys.map fun y => y.1.toB
  | [], _ => ⟨[], rfl, rfl⟩
  | (.byt x, t) :: r, h => by
    obtain ⟨ws, e1, e2⟩ := byts_are r fun y hy => h y (.tail _ hy)
    refine ⟨(x, t) :: ws, ?_, by simp [e2, Td.toB]⟩
    have e1 := congrArg Array.toList e1
    simp [tds, bvs, Td.val] at e1 ⊢
    exact e1
  | (.str x, t) :: r, h => absurd (h _ (.head _)) nofun
theorem szs_str : ∀ (l : List Td), (∀ y ∈ l, y.kind = 0) → ((l.map Td.toS).map (·.length)).sum + (l.map Td.toS).length = szs l
  | [], _ => rfl
  | .str x :: r, h => by
    have ih := szs_str r fun y hy => h y (.tail _ hy)
    simp only [List.map_cons, List.sum_cons, List.length_cons, szs, Td.toS, Td.txt] at ih ⊢
    show x.cps.size + _ + _ = x.cps.size + 1 + _
    lia
  | .byt x :: r, h => absurd (h _ (.head _)) nofun
theorem szs_byt : ∀ (l : List Td), (∀ y ∈ l, y.kind = 1) → ((l.map Td.toB).map (·.size)).sum ≤ szs l
  | [], _ => Nat.le_refl _
  | .byt x :: r, h => by
    have ih := szs_byt r fun y hy => h y (.tail _ hy)
    simp only [List.map_cons, List.sum_cons, szs, Td.toB, Td.txt, Array.size_map] at ih ⊢
    lia
  | .str x :: r, h => absurd (h _ (.head _)) nofun
theorem cat_any {x : Td} {l : Addr} {zs : List (Td × Tok)} {n : Nat} {t : Tok} {s : Shared} {Q : Value → Shared → Prop} (hl : s.heap.get? l = some ({ cls := .type "list", data := .seq (tds zs).toArray n } : Obj)) (hk : ∀ y ∈ zs, y.1.kind = x.kind) (hz : szs (zs.map (·.1)) ≤ 1048576)
    (q : ∀ t' k, Q ((x.cat (zs.map (·.1))).val t') { s with toks := k }) :
    wpAny (model C.prog C.w) A (if ((some (tds zs).toArray).getD #[]).isEmpty = true then pure ((x.sl 0 0).val t) else call (.builtin (if (x.kind == 0) = true then "str.join" else "bytes.join")) [(x.sl 0 0).val t, .ref l]) Q E s := by
  by_cases h0 : zs = []
  · subst h0
    rw [if_pos (show ((some (tds []).toArray).getD #[]).isEmpty = true from rfl)]
    have e : x.sl 0 0 = x.cat [] := by
      cases x with
      | str x => simp [Td.sl, Td.cat]; rfl
      | byt x => simp [Td.sl, Td.cat, bjoined_eq]
    rw [e]
    exact wpAny_pure (q t s.toks)
  · rw [if_neg (by
      cases zs with
      | nil => exact absurd rfl h0
      | cons _ _ => simp [tds])]
    cases x with
    | str x =>
      have hz' := szs_str (zs.map (·.1)) (fun y hy => by obtain ⟨z, hz, rfl⟩ := List.mem_map.mp hy; exact hk z hz)
      have e : (Td.str x).sl 0 0 = .str ⟨#[]⟩ := by simp [Td.sl]
      rw [e]
      refine join_listW (items := (tds zs).toArray) ⟨_, hl, rfl, n, rfl⟩ (by simpa using strs_are zs hk) (by decide) ?_ (fun t' k => ?_)
      · have e2 : (zs.map (·.1)).map Td.toS = zs.map fun y => y.1.toS := by rw [List.map_map]; rfl
        rw [e2] at hz'
        (clear h0; lia)
      · have := q t' k
        simp only [Td.cat, List.map_map] at this
        exact this
    | byt x =>
      obtain ⟨ws, e1, e2⟩ := byts_are zs hk
      have hz' := szs_byt (zs.map (·.1)) (fun y hy => by obtain ⟨z, hz, rfl⟩ := List.mem_map.mp hy; exact hk z hz)
      have e : (Td.byt x).sl 0 0 = .byt #[] := by simp [Td.sl]
      have e3 : (zs.map (·.1)).map Td.toB = ws.map (·.1) := by rw [e2, List.map_map]; rfl
      rw [e3] at hz'
      rw [e]
      rw [e1] at hl
      have hsl : (1048576 : Nat) ≤ sizeLine := by decide
      refine bjoin_any (ws := ws) hl ?_ ?_ fun t' k => ?_
      · rw [foldl_sizes]
        exact KBy.tooLong_not (by (clear h0 hsl; lia))
      · rw [joined_eq, List.size_toArray, flat_size]; (clear h0; lia)
      · have := q t' k
        simp only [Td.cat, e3] at this
        exact this
end
end Mine
/-! S6 -/
namespace Mine
open PySem PySem.W PySem.Spec PySem.Calls PyProof.Rows PySem.SeqAt
open PySem.Builtin PySem.Builtin.Re

theorem szs_le {a b : List Td} (h : a.map (fun y => y.txt.size) = b.map (fun y => y.txt.size)) : szs a = szs b := by
  have key : ∀ l : List Td, szs l = (l.map fun y => y.txt.size).sum + l.length := by
    intro l
    induction l with
    | nil => rfl
    | cons x l ih => simp only [szs, List.map_cons, List.sum_cons, List.length_cons] at ih ⊢; lia
  have hl : a.length = b.length := by simpa using congrArg List.length h
  rw [key, key, h, hl]
theorem len_szs (l : List Td) : l.length ≤ szs l := by
  induction l with
  | nil => exact Nat.le_refl _
  | cons x l ih => simp only [szs, List.map_cons, List.sum_cons, List.length_cons] at ih ⊢; lia

section
variable {C : Cx} {A : Around}
theorem tail_any {x : Td} {l : Addr} {zs : List (Td × Tok)} {m : Nat} {n : Int} {s : Shared} {Q : PySem.Fin → Shared → Prop} {E : Value → Shared → Prop} (g : Gd C s) (hx : x.txt.size ≤ 1048576) (hl : s.heap.get? l = some ({ cls := .type "list", data := .seq (tds zs).toArray m } : Obj)) (hk : ∀ y ∈ zs, y.1.kind = x.kind) (hz : szs (zs.map (·.1)) ≤ 1048576)
    (q : ∀ t' s', Gd C s' → s'.gens = s.gens → s'.heap = s.heap → Q (.done (.ret ((x.cat (zs.map (·.1))).val t'))) s') :
    wpAny (model C.prog C.w) A (do
      let joiner ← reSlice x.txt x.kind 0 0
      let its ← seqItems? (Value.ref l)
      if (its.getD #[]).isEmpty = true then do
          let text ← pure joiner
          if false = true then do
              let v ← holding [text] do
                    let k ← mkInt n
                    newTuple [text, k]
              ret v
            else ret text
        else do
          let text ← call (Value.builtin (if (x.kind == 0) = true then "str.join" else "bytes.join")) [joiner, Value.ref l]
          if false = true then do
              let v ← holding [text] do
                    let k ← mkInt n
                    newTuple [text, k]
              ret v
            else ret text) Q E s := by
  refine wpAny_bind (slice_any' hx ?_)
  refine wpAny_bind (wpAny_seqItems (s := { s with toks := s.toks + 1 }) hl rfl ?_)
  have key := cat_any (C := C) (A := A) (E := E) (s := { s with toks := s.toks + 1 }) (t := s.toks) (Q := fun v s' => wpAny (model C.prog C.w) A (ret v) Q E s') hl hk hz (fun t' k => wpAny_pure (q t' _ ⟨g.keep, g.ta, g.tb, g.os, g.bare, g.hx⟩ rfl rfl))
  by_cases he : ((some (tds zs).toArray).getD #[]).isEmpty = true
  · rw [if_pos he] at key ⊢
    exact wpAny_bind key
  · rw [if_neg he] at key ⊢
    exact wpAny_bind key
theorem PatO.up {h h' : Heap} {a : Addr} {code : Array Nat} {k : Nat} (p : PatO h a code k) (up : ∀ b o, h.get? b = some o → h'.get? b = some o) : PatO h' a code k := by
  obtain ⟨fs, ws, T, n, h1, h2, r⟩ := p.at_
  exact ⟨fs, ws, T, n, up _ _ h1, up _ _ h2, r⟩
theorem val_some (r : Td) (t : Tok) : (r.val t != Value.none) = true := by cases r <;> rfl
theorem loop_any {R : Result → Shared → Prop} {a l : Addr} {code : Array Nat} {x r : Td} {tx tr : Tok} (hk : r.kind = x.kind) (hx : x.txt.size ≤ 1048576) (hrl : r.txt.size ≥ 1) {d : Nat} {pcs : List Td} (h : Res code x r d pcs) :
    ∀ (ys : List (Td × Tok)) (n : Int) (m : Nat) (s : Shared), Gd C s → C.gh.get? l = none → s.heap.get? l = some ({ cls := .type "list", data := .seq (tds ys).toArray m } : Obj) → PatO C.gh a code x.kind → (∀ y ∈ ys, y.1.kind = x.kind) → szs (ys.map (·.1)) + szs pcs ≤ 1048576 →
    (∀ t' s', Gd C s' → s'.gens = s.gens → (∀ b o, b ≠ l → s.heap.get? b = some o → s'.heap.get? b = some o) → R (.ok (.ret ((x.cat (ys.map (·.1) ++ pcs)).val t'))) s') →
    codeAny (model C.prog C.w) A (.builtin "re.Pattern.sub.loop" ⟨[.ref a, x.val tx, r.val tr, rawInt 0, rawInt 0, rawInt n, rawInt d, rawInt d, .bool false, .ref l, .bool false], []⟩) R s := by
  induction h with
  | @stop d hf =>
    intro ys n m s g hg hl hp hy hz q
    obtain ⟨k, hk2, he⟩ := hf
    refine codeAny_builtin entry_sub_loop ?_
    unfold «re.Pattern.sub.loop»
    dsimp only [rawInt]
    have hp' : PatO s.heap a code x.kind := hp.up g.keep
    refine wpAny_bind (whole_any hp' (wpAny_pos rfl (wpAny_bind (lit_any (wpAny_bind (wpAny_neg (by simp) ?_))))))
    unfold reNextFound
    refine (end_any (n := k) (by (clear hk hx hrl hz; lia)) he ?_)
    dsimp only
    have hkk := res_kind hk (Res.stop (code := code) (x := x) (r := r) (d := d) ⟨k, hk2, he⟩)
    by_cases hd : d < x.txt.size
    · rw [if_pos hd] at hz q hkk
      refine wpAny_pos (show ((d : Int)).toNat < x.txt.size from hd) ?_
      refine wpAny_bind (slice_any' hx ?_)
      refine wpAny_bind (push_any (C := C) (s := { s with toks := s.toks + 1 }) ⟨g.keep, g.ta, g.tb, g.os, g.bare, g.hx⟩ hg hl (by have := len_szs (ys.map (·.1)); simp [tds] at this ⊢; (clear hk hx hrl hk2 hd; lia)) fun s₂ n' g2 t2 e2 k2 l2 => ?_)
      refine tail_any (C := C) (zs := ys ++ [(x.sl d x.txt.size, s.toks)]) (m := n') g2 hx (by rw [l2]; simp [tds]) (fun y hy' => ?_) (by simpa [szs] using hz) fun t' s' g' e' h' => ?_
      · exact (List.mem_append.mp hy').elim (hy y) (all1 (P := fun y : Td × Tok => y.1.kind = x.kind) (sl_kind _ _ _) y)
      · rw [List.map_append]
        exact q t' s' g' (e'.trans e2) (fun b o nb eb => by rw [h']; exact k2 b o nb eb)
    · rw [if_neg hd, List.append_nil] at q
      rw [if_neg hd] at hz
      refine wpAny_neg (show ¬ ((d : Int)).toNat < x.txt.size from hd) ?_
      refine tail_any (C := C) (zs := ys) (m := m) g hx hl hy (by simpa [szs] using hz) fun t' s' g' e' h' => q t' s' g' e' (fun b o nb eb => by rw [h']; exact eb)
  | @more d p e ll hf h1 h2 hr ih =>
    intro ys n m s g hg hl hp hy hz q
    obtain ⟨k, hk2, he⟩ := hf
    refine codeAny_builtin entry_sub_loop ?_
    unfold «re.Pattern.sub.loop»
    dsimp only [rawInt]
    have hp' : PatO s.heap a code x.kind := hp.up g.keep
    refine wpAny_bind (whole_any hp' (wpAny_pos rfl (wpAny_bind (lit_any (wpAny_bind (wpAny_neg (by simp) ?_))))))
    unfold reNextFound
    refine (end_any (n := k) (by (clear hk hx hrl h1 h2 hz; lia)) he ?_)
    intro m' e1 e2
    dsimp only
    rw [e1, e2]
    have hep : (e == p) = false := beq_eq_false_iff_ne.mpr (by (clear hk hx hrl h2 hz hk2; lia))
    have ylen : ∀ zs : List (Td × Tok), szs (zs.map (·.1)) ≤ 1048576 → (tds zs).toArray.size ≤ 1048576 := fun zs hz => by
      have := len_szs (zs.map (·.1)); simp [tds] at this ⊢; (clear hk hx hrl h1 h2 hk2 e1 e2 hep; lia)
    have fin : ∀ (zs : List (Td × Tok)) (s₂ : Shared) (m' : Nat), Gd C s₂ → s₂.gens = s.gens → (∀ b o, b ≠ l → s.heap.get? b = some o → s₂.heap.get? b = some o) → s₂.heap.get? l = some ({ cls := .type "list", data := .seq (tds zs).toArray m' } : Obj) → zs.map (·.1) = ys.map (·.1) ++ (if d < p then [x.sl d p] else []) → (∀ y ∈ zs, y.1.kind = x.kind) →
        wpAny (model C.prog C.w) (A.under (Code.builtin "re.Pattern.sub.loop" ⟨[Value.ref a, x.val tx, r.val tr, Value.int 0 0, Value.int 0 0, Value.int n 0, Value.int (d : Int) 0, Value.int (d : Int) 0, Value.bool false, Value.ref l, Value.bool false], []⟩)) (do
          updateSeq l fun y => y.push (r.val tr)
          again (Code.builtin "re.Pattern.sub.loop" ⟨[Value.ref a, x.val tx, r.val tr, Value.int 0 0, Value.int 0 0, Value.int (n + 1) 0, Value.int (e : Int) 0, Value.int (e : Int) 0, Value.bool (e == p), Value.ref l, Value.bool false], []⟩))
        (fun fin s' => match fin with | .done f => R (.ok f) s' | .again c' => c'.quiet = true ∧ codeAny (model C.prog C.w) A c' R s') (fun e s' => R (.error e) s') s₂ := fun zs s₂ m' g2 e2 k2 l2 hzs hzk => by
      have hz2 : szs (zs.map (·.1)) + szs (r :: ll) ≤ 1048576 := by rw [hzs]; simp only [szs_append] at hz ⊢; (clear hk hx hrl h1 h2 hk2 e1 hep; lia)
      refine wpAny_bind (push_any (C := C) (s := s₂) g2 hg l2 (ylen zs (by (clear hk hx hrl h1 h2 hz hk2 e1 hep; lia))) fun s₃ n3 g3 t3 e3 k3 l3 => ?_)
      refine wpAny_pure ⟨Code.quiet_builtin _ (by decide +kernel), ?_⟩
      rw [hep]
      refine ih (zs ++ [(r, tr)]) (n + 1) n3 s₃ g3 hg (by rw [l3]; simp [tds]) hp (fun y hy' => ?_) (by
        rw [List.map_append, szs_append]
        simp only [szs, List.map_cons, List.map_nil, List.sum_cons, List.sum_nil] at hz2 ⊢; (clear hk hx hrl h1 h2 hz hk2 e1 hep t3; lia)) fun t' s' g' e' k' => ?_
      · exact (List.mem_append.mp hy').elim (hzk y) (all1 (P := fun y : Td × Tok => y.1.kind = x.kind) hk y)
      · have := q t' s' g' (e'.trans (e3.trans e2)) (fun b o nb eb => k' b o nb (k3 b o nb (k2 b o nb eb)))
        rw [List.map_append, hzs]
        simpa [List.append_assoc] using this
    by_cases hd : d < p
    · refine wpAny_pos (show ((d : Int)).toNat < p from hd) ?_
      refine wpAny_bind (slice_any' hx ?_)
      refine wpAny_bind (push_any (C := C) (s := { s with toks := s.toks + 1 }) ⟨g.keep, g.ta, g.tb, g.os, g.bare, g.hx⟩ hg hl (ylen ys (by (clear hk hx hrl h1 h2 hk2 e1 e2 hep hd; lia))) fun s₂ n' g2 t2 e2 k2 l2 => ?_)
      refine wpAny_pos rfl (wpAny_bind (wpAny_pure (wpAny_pos (val_some r tr) ?_)))
      refine fin (ys ++ [(x.sl d p, s.toks)]) s₂ n' g2 e2 k2 (by rw [l2]; simp [tds]) (by rw [if_pos hd]; simp) fun y hy' => ?_
      exact (List.mem_append.mp hy').elim (hy y) (all1 (P := fun y : Td × Tok => y.1.kind = x.kind) (sl_kind _ _ _) y)
    · refine wpAny_neg (show ¬ ((d : Int)).toNat < p from hd) ?_
      refine wpAny_pos rfl (wpAny_bind (wpAny_pure (wpAny_pos (val_some r tr) ?_)))
      exact fin ys s m g rfl (fun zz zz zz e => e) hl (by rw [if_neg hd, List.append_nil]) hy
end
end Mine
/-! S7 -/
namespace Mine
open PySem PySem.W PySem.Spec PySem.Calls PyProof.Rows PySem.SeqAt
open PySem.Builtin PySem.Builtin.Re

theorem plain_pattern : PlainAttrs "re.Pattern" :=
  ⟨⟨"object.__getattribute__", by rw [typeLookup_type, builtinLookup_eq_fast]; kernel_rfl, by decide +kernel⟩, by rw [typeLookup_type, builtinLookup_eq_fast]; kernel_rfl⟩
theorem slot_sub : Slot "re.Pattern" "sub" "re.Pattern.sub" :=
  .of (owner := "re.Pattern") (n := "sub") (by rw [typeLookup_type, builtinLookup_eq_fast]; kernel_rfl) (by decide +kernel) (by decide +kernel) (by decide +kernel)
    (by first | exact .inl (by decide +kernel) | exact .inr (by decide +kernel)) (by rw [isSubtype_type]; kernel_rfl)
theorem type_sub : typeOf (.builtin "re.Pattern.sub") = pure (.type "method_descriptor") := by show builtinType _ = _; rw [builtinType_eq_fast]; kernel_rfl
theorem entry_sub : entryFor table "re.Pattern.sub" = some Builtin.«re.Pattern.sub» := entryFor_of_tree (by kernel_rfl)
theorem args_sub (a b c : Value) : argsOk "re.Pattern.sub" ⟨[a, b, c], []⟩ := by unfold argsOk; kernel_rfl
theorem look_str_call : typeLookup (.type "str") "__call__" = pure none := by rw [typeLookup_type, builtinLookup_eq_fast]; kernel_rfl
theorem look_bytes_call : typeLookup (.type "bytes") "__call__" = pure none := by rw [typeLookup_type, builtinLookup_eq_fast]; kernel_rfl

/-- a replacement that is written out -/
noncomputable def Lit : Td → Prop
  | .str x => x.cps.contains 92 = false
  | .byt x => x.contains 92 = false
section
variable {M : Model} {A : Around} {E : Value → Shared → Prop} {s : Shared}
theorem special_call {r : Td} {t : Tok} : specialOf (r.val t) "__call__" = pure none := by
  cases r with
  | str x => exact look_str_call
  | byt x => exact look_bytes_call
end
theorem named_sub (p r x : Value) : reNamed "re.Pattern.sub" "sub" ["repl", "string", "count"] 2 [r, x] [] = pure [some r, some x, none] := by rfl

theorem call_sub {C : Cx} {a : Addr} {code : Array Nat} {x r : Td} {pcs : List Td} (hp : PatO C.gh a code x.kind) (hk : r.kind = x.kind) (hlit : Lit r) (hx : x.txt.size ≤ 1048576) (hrl : r.txt.size ≥ 1) (h : Res code x r 0 pcs) (hz : szs pcs ≤ 1048576) :
    Call C 0 (.builtin "re.Pattern.sub") [.ptr (.ref a), r.D, x.D] (x.cat pcs).D := by
  intro A hid s vs Q E rm g bd rr q
  obtain ⟨v1, vs, rfl, r1, rr⟩ := rr.cons_inv
  obtain ⟨v2, v3, rfl, r2, r3⟩ := rr.two
  obtain rfl := r1.ptr_inv
  obtain ⟨tr, rfl⟩ := Td.inv r2
  obtain ⟨tx, rfl⟩ := Td.inv r3
  have hp' : PatO s.heap a code x.kind := hp.up g.keep
  have hT : s.TypeIs (.ref a) "re.Pattern" := by obtain ⟨fs, ws, T, n, h1, h2, r⟩ := hp'.at_; exact ⟨_, h1, rfl⟩
  refine wpAny_call (codeAny_call_builtin slot_sub.plain entry_sub (slot_sub.check _ _ _ _ _ _ _ _ hT (args_sub _ _ _) ?_))
  unfold «re.Pattern.sub» reSubstitute
  refine wpAny_bind (wpAny_of_eq (named_sub (.ref a) _ _) ?_)
  refine wpAny_bind (wpAny_pure ?_)
  refine wpAny_bind (wpAny_of_eq special_call ?_)
  refine wpAny_neg nofun ?_
  have fin : wpAny (model C.prog C.w) A.in1 (do
      let l ← newList []
      again (Code.builtin "re.Pattern.sub.loop" ⟨[Value.ref a, x.val tx, r.val tr, rawInt 0, rawInt 0, rawInt 0, rawInt 0, rawInt 0, Value.bool false, l, Value.bool false], []⟩))
      (fun fin s' => match fin with | .done f => wants Q E (.ok f) s' | .again c' => c'.quiet = true ∧ codeAny (model C.prog C.w) A c' (wants Q E) s') (fun e s' => wants Q E (.error e) s') s := by
    refine wpAny_bind (wpAny_newList ?_)
    refine wpAny_pure ⟨Code.quiet_builtin _ (by decide +kernel), ?_⟩
    have x1 : Ex C s { s with heap := s.heap.push { cls := .type "list", data := .seq #[] } } := Ex.push (tk := s.toks) g _
    have hnew : s.heap.get? s.heap.objs.size = none := get_size
    have hgl : C.gh.get? s.heap.objs.size = none := by
      cases qq : C.gh.get? s.heap.objs.size with
      | none => rfl
      | some o => exact no_at (g.keep _ _ qq) hnew rfl
    refine loop_any (C := C) (a := a) (code := code) hk hx hrl h [] 0 0 _ x1.gd hgl (Heap.get?_push_size _ rfl) hp (fun y hy => nomatch hy) (by simpa [szs] using hz) fun t' s' g' e' k' => ?_
    refine q _ _ ⟨g', fun b o ho eb => k' b o (fun z => no_at eb hnew z) (Heap.get?_push_of_some _ eb), fun i y e => by rw [e']; exact e⟩ (Td.rp _ t')
  cases r with
  | str y =>
    have hl : (!y.cps.contains 92) = true := by rw [show y.cps.contains 92 = false from hlit]; rfl
    refine wpAny_bind (wpAny_of_eq (a := some y) rfl ?_)
    refine wpAny_bind (wpAny_pure ?_)
    refine wpAny_neg nofun (wpAny_pos hl ?_)
    refine wpAny_bind (wpAny_pure ?_)
    refine wpAny_bind (wpAny_holding (whole_any hp' ?_))
    exact wpAny_neg (by decide) fin
  | byt y =>
    have hl : (!y.contains 92) = true := by rw [show y.contains 92 = false from hlit]; rfl
    refine wpAny_bind (wpAny_of_eq (a := none) rfl ?_)
    refine wpAny_bind (wpAny_of_eq KBy.quiet_eq ?_)
    refine wpAny_bind (wpAny_pure ?_)
    refine wpAny_neg nofun (wpAny_pos hl ?_)
    refine wpAny_bind (wpAny_pure ?_)
    refine wpAny_bind (wpAny_holding (whole_any hp' ?_))
    exact wpAny_neg (by decide) fin
end Mine
/-! S8 -/
namespace Mine
open PySem PySem.W PySem.Spec PySem.Calls PyProof.Rows PySem.SeqAt
open PySem.Builtin PySem.Builtin.Re

/-- the characters of pieces in a row -/
noncomputable def flat (l : List Td) : List Nat := l.flatMap (·.txt.toList)
theorem flat_append (a b : List Td) : flat (a ++ b) = flat a ++ flat b := List.flatMap_append
theorem flat_cons (a : Td) (b : List Td) : flat (a :: b) = a.txt.toList ++ flat b := rfl
theorem join_flat : ∀ l : List Str, (Txt.join ⟨#[]⟩ l).cps = (l.flatMap (·.cps.toList)).toArray
  | [] => rfl
  | x :: r => by
    have ih := join_flat r
    have e : Txt.join ⟨#[]⟩ (x :: r) = x ++ Txt.join ⟨#[]⟩ r := by
      show Builtin.Str.glued _ _ = x ++ Builtin.Str.glued _ _
      rw [PySem.StrLaws.glued_eq_join, PySem.StrLaws.glued_eq_join, PyProof.Rows.join_nil_cons]
    rw [e]
    show x.cps ++ (Txt.join ⟨#[]⟩ r).cps = _
    rw [ih, List.flatMap_cons, ← List.append_toArray]
theorem cat_txt {x : Td} {l : List Td} (h : ∀ y ∈ l, y.kind = x.kind) : (x.cat l).txt.toList = flat l ∧ (x.cat l).kind = x.kind := by
  cases x with
  | str x =>
    refine ⟨?_, rfl⟩
    show (Txt.join ⟨#[]⟩ (l.map Td.toS)).cps.toList = _
    rw [join_flat, List.toList_toArray]
    induction l with
    | nil => rfl
    | cons y l ih =>
      rw [List.map_cons, List.flatMap_cons, flat_cons, ih fun z hz => h z (.tail _ hz)]
      cases y with
      | str y => rfl
      | byt y => exact absurd (h _ (.head _)) nofun
  | byt x =>
    refine ⟨?_, rfl⟩
    show ((bjoined (l.map Td.toB)).map (·.toNat)).toList = _
    rw [bjoined_eq]
    induction l with
    | nil => simp [flat]
    | cons y l ih =>
      have ih := ih fun z hz => h z (.tail _ hz)
      rw [List.map_cons, List.flatMap_cons, flat_cons, ← ih]
      cases y with
      | byt y => simp [Td.toB, Td.txt]
      | str y => exact absurd (h _ (.head _)) nofun
theorem sl_txt (x : Td) (b e : Nat) : (x.sl b e).txt = x.txt.extract b e := by
  cases x with
  | str x => rfl
  | byt x => simp [Td.sl, Td.txt]

section
variable {code : Array Nat} {x r : Td} {Hit : Nat → Prop} {en : Nat → Nat} {G : Nat → List Nat}
/-- where the next hit is -/
theorem next_hit (n : Nat) : ∀ k d, d + k = n → (∀ q, Hit q → q < n) → (∃ p, d ≤ p ∧ Hit p ∧ ∀ q, d ≤ q → q < p → ¬ Hit q) ∨ (∀ q, d ≤ q → ¬ Hit q) := by
  intro k
  induction k with
  | zero => exact fun d e h => .inr fun q hq hh => Nat.lt_irrefl _ (Nat.lt_of_le_of_lt (Nat.le_trans (Nat.le_of_eq e.symm) hq) (h q hh))
  | succ k ih =>
    intro d e h
    by_cases hd : Hit d
    · exact .inl ⟨d, Nat.le_refl _, hd, fun q h1 h2 => absurd (Nat.lt_of_lt_of_le h2 h1) (Nat.lt_irrefl _)⟩
    · have up : ∀ q, d ≤ q → Hit q → d + 1 ≤ q := fun q h1 h2 => Nat.lt_of_le_of_ne h1 fun e => hd (e ▸ h2)
      rcases ih (d + 1) (by rw [Nat.add_right_comm]; exact e) h with ⟨p, h1, h2, h3⟩ | h1
      · exact .inl ⟨p, Nat.le_of_succ_le h1, h2, fun q hq1 hq2 hh => h3 q (up q hq1 hh) hq2 hh⟩
      · exact .inr fun q hq hh => h1 q (up q hq hh) hh
theorem G_slice (hG : ∀ d, d < x.txt.size → ¬ Hit d → G d = x.txt[d]?.getD 0 :: G (d + 1)) : ∀ k d, d + k ≤ x.txt.size → (∀ q, d ≤ q → q < d + k → ¬ Hit q) → G d = (x.txt.extract d (d + k)).toList ++ G (d + k)
  | 0, d, h1, h2 => by simp
  | k + 1, d, h1, h2 => by
    have hd : d < x.txt.size := by lia
    rw [hG d hd (h2 d (Nat.le_refl _) (by (clear h1 hd; lia))), G_slice hG k (d + 1) (by (clear hd; lia)) fun q a b => h2 q (by (clear h1 hd b; lia)) (by (clear h1 hd a; lia))]
    have e : (x.txt.extract d (d + (k + 1))).toList = x.txt[d]?.getD 0 :: (x.txt.extract (d + 1) (d + 1 + k)).toList := by
      rw [Array.toList_extract, Array.toList_extract, List.extract_eq_take_drop, List.extract_eq_take_drop, Nat.add_sub_cancel_left, Nat.add_sub_cancel_left]
      have hd' : d < x.txt.toList.length := by simpa using hd
      rw [List.drop_eq_getElem_cons hd', List.take_succ_cons]
      simp [hd]
    rw [e, List.cons_append, show d + 1 + k = d + (k + 1) by (clear h1 hd; lia)]
theorem sz_arith {u v w R a c : Nat} (hv : 0 < v) (ha : a ≤ u + 1) (hc : c ≤ w * (R + 3) + 1) : a + (R + 1 + c) ≤ (u + (v + w)) * (R + 3) + 1 := by
  have m1 : u ≤ u * (R + 3) := Nat.le_mul_of_pos_right _ (Nat.succ_pos _)
  have m2 : R + 3 ≤ v * (R + 3) := Nat.le_mul_of_pos_left _ hv
  rw [Nat.add_mul, Nat.add_mul]
  generalize u * (R + 3) = U at *
  generalize v * (R + 3) = V at *
  generalize w * (R + 3) = W at *
  (clear hv; omega)
theorem piece_szs (x : Td) (d p : Nat) : szs (if d < p then [x.sl d p] else []) ≤ (p - d) + 1 := by
  by_cases hp : d < p
  · rw [if_pos hp]
    show (x.sl d p).txt.size + 1 + 0 ≤ _
    rw [sl_txt, Array.size_extract]
    exact Nat.add_le_add_right (Nat.sub_le_sub_right (Nat.min_le_left _ _) _) 1
  · rw [if_neg hp]; exact Nat.zero_le _
theorem piece_flat (x : Td) (d p : Nat) : flat (if d < p then [x.sl d p] else []) = (x.txt.extract d p).toList := by
  by_cases hp : d < p
  · rw [if_pos hp, flat_cons, sl_txt]; exact List.append_nil _
  · rw [if_neg hp, Array.extract_empty_of_stop_le_start (Nat.le_of_not_lt hp)]; rfl
theorem res_exists (hH : ∀ q, Hit q → q < x.txt.size ∧ q < en q ∧ en q ≤ x.txt.size)
    (hf : ∀ d, d ≤ x.txt.size → ∀ r : Option (Nat × Nat), (match r with | some (p, e) => d ≤ p ∧ e = en p ∧ Hit p ∧ ∀ q, d ≤ q → q < p → ¬ Hit q | none => ∀ q, d ≤ q → ¬ Hit q) → Fnd code x d r)
    (hG : ∀ d, d < x.txt.size → ¬ Hit d → G d = x.txt[d]?.getD 0 :: G (d + 1)) (hGe : G x.txt.size = []) (hGh : ∀ p, Hit p → G p = r.txt.toList ++ G (en p)) :
    ∀ k d, d ≤ x.txt.size → x.txt.size - d ≤ k → ∃ pcs, Res code x r d pcs ∧ flat pcs = G d ∧ szs pcs ≤ (x.txt.size - d) * (r.txt.size + 3) + 1 := by
  have stop : ∀ d, d ≤ x.txt.size → (∀ q, d ≤ q → ¬ Hit q) → ∃ pcs, Res code x r d pcs ∧ flat pcs = G d ∧ szs pcs ≤ (x.txt.size - d) * (r.txt.size + 3) + 1 := fun d hd h1 => by
    have e := Nat.add_sub_cancel' hd
    have hs := G_slice hG (x.txt.size - d) d (Nat.le_of_eq e) (fun q b c => h1 q b)
    rw [e, hGe, List.append_nil] at hs
    exact ⟨_, .stop (hf d hd none h1), (piece_flat x d _).trans hs.symm, Nat.le_trans (piece_szs x d _) (Nat.add_le_add_right (Nat.le_mul_of_pos_right _ (Nat.succ_pos _)) 1)⟩
  intro k
  induction k with
  | zero =>
    intro d hd hk
    exact stop d hd fun q h1 h2 => Nat.lt_irrefl _ (Nat.lt_of_lt_of_le (hH q h2).1 (Nat.le_trans (Nat.sub_eq_zero_iff_le.mp (Nat.le_zero.mp hk)) h1))
  | succ k ih =>
    intro d hd hk
    rcases next_hit (Hit := Hit) x.txt.size (x.txt.size - d) d (Nat.add_sub_cancel' hd) (fun q hq => (hH q hq).1) with ⟨p, h1, h2, h3⟩ | h1
    · obtain ⟨a1, a2, a3⟩ := hH p h2
      obtain ⟨pcs, e1, e2, e3⟩ := ih (en p) a3 (by (clear a1 a3 hd; omega))
      have e := Nat.add_sub_cancel' h1
      refine ⟨_, .more (hf d hd (some (p, en p)) ⟨h1, rfl, h2, h3⟩) a2 a3 e1, ?_, ?_⟩
      · have hs := G_slice hG (p - d) d (by rw [e]; exact Nat.le_of_lt a1) (fun q b c => h3 q b (by rw [e] at c; exact c))
        rw [e] at hs
        rw [hs, hGh p h2, flat_append, flat_cons, e2, piece_flat]
      · rw [szs_append, show x.txt.size - d = (p - d) + ((en p - p) + (x.txt.size - en p)) by (clear a1 e1 e2 e3 e hk hd; omega)]
        exact sz_arith (Nat.sub_pos_of_lt a2) (piece_szs x d p) e3
    · exact stop d hd h1
end

/-! ## what the two patterns' replacements make -/
noncomputable def fixL : List Nat → List Nat
  | 13 :: 10 :: r => 13 :: 10 :: fixL r
  | 10 :: r => 13 :: 10 :: fixL r
  | 13 :: r => 13 :: 10 :: fixL r
  | c :: r => c :: fixL r
  | [] => []
noncomputable def quoL : Bool → List Nat → List Nat
  | _, [] => []
  | b, c :: r => if b = true ∧ c = 46 then 46 :: 46 :: quoL false r else c :: quoL (c == 10) r
end Mine
/-! S9 -/
namespace Mine
open PySem PySem.W PySem.Spec PySem.Calls PyProof.Rows PySem.SeqAt
open PySem.Builtin PySem.Builtin.Re

theorem drop_get {x : Array Nat} {d : Nat} (h : d < x.size) : x.toList.drop d = x[d]?.getD 0 :: x.toList.drop (d + 1) := by
  have hd' : d < x.toList.length := by simpa using h
  rw [List.drop_eq_getElem_cons hd']
  simp [h]
theorem fixL_plain {c : Nat} {r : List Nat} (h : c ≠ 10) (h2 : c ≠ 13) : fixL (c :: r) = c :: fixL r := by
  rw [fixL]
  · exact fun zz h3 => absurd h3 h2
  · exact h
  · exact h2
theorem fixL_lf {r : List Nat} : fixL (10 :: r) = 13 :: 10 :: fixL r := rfl
theorem fixL_crlf {r : List Nat} : fixL (13 :: 10 :: r) = 13 :: 10 :: fixL r := rfl
theorem fixL_cr {c : Nat} {r : List Nat} (h : c ≠ 10) : fixL (13 :: c :: r) = 13 :: 10 :: fixL (c :: r) := by
  rw [fixL]
  intro _ h2
  cases h2
  exact absurd rfl h
theorem fix_res {x r : Td} (hr : r.txt = #[13, 10]) (hx : x.txt.size ≤ 100000) : ∃ pcs, Res code3 x r 0 pcs ∧ flat pcs = fixL x.txt.toList ∧ szs pcs ≤ 1048576 := by
  have := res_exists (code := code3) (x := x) (r := r) (Hit := Eol x.txt x.txt.size) (en := eolEnd x.txt x.txt.size) (G := fun d => fixL (x.txt.toList.drop d))
    (fun q hq => ⟨hq.1, by unfold eolEnd; split <;> (clear hx; lia), by have := hq.1; unfold eolEnd; split <;> (clear hx; lia)⟩)
    (fun d hd r hr => (search3 (text := x.txt) (lim := x.txt.size) hd r (by cases r <;> exact hr)).imp fun k h => ⟨by have h1 := h.1; (clear hx hd h; lia), h.2⟩)
    (fun d hd hn => by
      show fixL _ = _ :: fixL _
      rw [drop_get hd]
      exact fixL_plain (fun q => hn ⟨hd, .inl q⟩) (fun q => hn ⟨hd, .inr q⟩))
    (by show fixL _ = []; rw [List.drop_eq_nil_of_le (by simp)]; rfl)
    (fun p hp => by
      show fixL _ = _ ++ fixL _
      rw [hr, drop_get hp.1]
      show _ = 13 :: 10 :: fixL _
      rcases hp.2 with h | h
      · rw [h, fixL_lf]
        unfold eolEnd
        rw [if_neg (fun q => by rw [h] at q; exact absurd q.1 (by decide))]
      · rw [h]
        by_cases h2 : p + 1 < x.txt.size ∧ x.txt[p + 1]?.getD 0 = 10
        · unfold eolEnd
          rw [if_pos ⟨h, h2⟩, drop_get h2.1, h2.2, fixL_crlf]
        · unfold eolEnd
          rw [if_neg (fun q => h2 q.2)]
          by_cases h3 : p + 1 < x.txt.size
          · rw [drop_get h3, fixL_cr (fun q => h2 ⟨h3, q⟩)]
          · rw [List.drop_eq_nil_of_le (by simp; (clear hx h h2; lia))]; rfl)
    x.txt.size 0 (by lia) (by lia)
  obtain ⟨pcs, h1, h2, h3⟩ := this
  refine ⟨pcs, h1, h2, ?_⟩
  rw [hr] at h3
  have : (#[13, 10] : Array Nat).size = 2 := rfl
  rw [this] at h3
  (clear this; lia)
theorem quo_res {x r : Td} (hr : r.txt = #[46, 46]) (hx : x.txt.size ≤ 200000) : ∃ pcs, Res code1 x r 0 pcs ∧ flat pcs = quoL true x.txt.toList ∧ szs pcs ≤ 1048576 := by
  have := res_exists (code := code1) (x := x) (r := r) (Hit := Dot x.txt x.txt.size) (en := fun p => p + 1) (G := fun d => quoL (d == 0 || x.txt[d - 1]?.getD 0 == 10) (x.txt.toList.drop d))
    (fun q hq => ⟨hq.2.1, by show q < q + 1; (clear hx; lia), hq.2.1⟩)
    (fun d hd r hr => (search1 (text := x.txt) (lim := x.txt.size) hd r (by cases r <;> exact hr)).imp fun k h => ⟨by have h1 := h.1; (clear hd h; lia), h.2⟩)
    (fun d hd hn => by
      show quoL _ _ = _ :: quoL _ _
      rw [drop_get hd, quoL, if_neg (fun q => hn ⟨by simpa using q.1, hd, q.2⟩)]
      rfl)
    (by show quoL _ _ = []; rw [List.drop_eq_nil_of_le (by simp)]; cases (x.txt.size == 0 || x.txt[x.txt.size - 1]?.getD 0 == 10) <;> rfl)
    (fun p hp => by
      show quoL _ _ = _ ++ quoL _ _
      rw [hr, drop_get hp.2.1, quoL, if_pos ⟨by simpa using hp.1, hp.2.2⟩]
      have e : (p + 1 == 0 || x.txt[p + 1 - 1]?.getD 0 == 10) = false := by
        rw [Nat.add_sub_cancel, hp.2.2]; rfl
      rw [e]; rfl)
    x.txt.size 0 (by lia) (by lia)
  obtain ⟨pcs, h1, h2, h3⟩ := this
  refine ⟨pcs, h1, h2, ?_⟩
  rw [hr] at h3
  have : (#[46, 46] : Array Nat).size = 2 := rfl
  rw [this] at h3
  (clear this; lia)

/-! ## the three functions -/
noncomputable def Pat (C : Cx) (x : Str) (code : Array Nat) (kind : Nat) : Prop := ∃ a, C.mg x = some (.ref a) ∧ PatO C.gh a code kind
structure PrT (C : Cx) : Prop where
  p1 : Pat C "_twin_re_1" code1 0
  p2 : Pat C "_twin_re_2" code1 1
  p3 : Pat C "_twin_re_3" code3 0
  crlf : ∃ t, C.mg (Str.ofString "CRLF") = some (.str (Str.ofString "\r\n") t)

section
variable {C : Cx} {F : Fx} {ρ : Store}
theorem ev_globv {x : Str} {p : Pos} {v : Value} {d : D} (hm : C.mg x = some v) (hr : ∀ hid h, Rp hid h v d) (hx : F.env.kindOf x = some .globalImplicit) (hd : (x == ("__debug__" : Str)) = false := by decide) : Ev C F ρ (.Name x p) d := .mk fun W s Q E f q => global_any f hx hm (q _ _ (Ex.refl f.gd) (hr _ _)) hd
theorem ev_bytes {x : List UInt8} {k : Nat} {p : Pos} : Ev C F ρ (.Constant (.bytes x) k p) (.bytes x.toArray) := .mk fun W s Q E f q => Constant_bytes (q _ _ (Ex.toks f.gd) (.bytes _ _))
theorem ev_sub_call {x : Str} {np apos pos : Pos} {es : List Expr} {t r : Td} {pcs : List Td} {code : Array Nat} (hp : Pat C x code t.kind) (h : Evs C F ρ pos es [r.D, t.D]) (hk : r.kind = t.kind) (hlit : Lit r) (hsz : t.txt.size ≤ 1048576) (hrl : r.txt.size ≥ 1) (hres : Res code t r 0 pcs) (hz : szs pcs ≤ 1048576)
    (hx : F.env.kindOf x = some .globalImplicit) (hd : (x == ("__debug__" : Str)) = false := by decide)
    (hbase : attributeBase (.Name x np) (Str.ofString "sub") F.env (eval (.Name x np) F.env) = eval (.Name x np) F.env := by rfl)
    (hfew : ((backTo pos (starEach es F.env)).all (fun x => !x.1) && (backToKw pos (keywordEach [] F.env)).all (fun x => x.1.isSome)
      && decide (es.length + ([] : List Keyword).length + (if ([] : List Keyword).isEmpty then 0 else 1) < 30)) = true := by rfl)
    (hline : (apos.endLine == pos.line) = true := by rfl) : Ev C F ρ (.Call (.Attribute (.Name x np) (Str.ofString "sub") apos) es [] pos) (t.cat pcs).D := .mk fun W s Q E f q => by
  obtain ⟨a, hm, po⟩ := hp
  refine wpAny_Call_method hbase hfew hline plain_pattern slot_sub type_sub (global_any f hx hm ?_ hd)
  obtain ⟨fs, ws, T, n, h1, h2, r⟩ := po.at_
  have h1' := f.gd.keep _ _ h1
  refine ⟨⟨_, h1', rfl⟩, fun b e => by cases e; exact ⟨_, h1', rfl⟩, Calls.callWith_builtin (evs_any h) (evs_args h f fun vs s' y r' => ?_)⟩
  exact call_sub po hk hlit hsz hrl hres hz F.A W.hid s' (.ref a :: vs) _ _ (f.rm.mono (Nat.zero_le _)) y.gd (f.ex y).bd (.cons (.ptr _) r') fun v s'' z r'' => q v s'' (y.trans z) r''
end
theorem lit_crlf : Lit (.str (Str.ofString "\r\n")) := by show Array.contains _ _ = false; decide +kernel
theorem lit_dots : Lit (.str (Str.ofString "..")) := by show Array.contains _ _ = false; decide +kernel
theorem lit_bdots : Lit (.byt #[46, 46]) := by show Array.contains _ _ = false; decide +kernel
theorem res_kind' {code : Array Nat} {x r : Td} {d : Nat} {l : List Td} (h : Res code x r d l) (hk : r.kind = x.kind) : ∀ y ∈ l, y.kind = x.kind := res_kind hk h
theorem eq_str {d : Td} {l : List Nat} (hk : d.kind = 0) (h : d.txt.toList = l) : d.D = .str ⟨l.toArray⟩ := by
  cases d with
  | str x => subst h; show D.str x = D.str ⟨x.cps.toList.toArray⟩; rw [Array.toArray_toList]
  | byt x => cases hk
theorem eq_byt {d : Td} {l : List Nat} (hk : d.kind = 1) (h : d.txt.toList = l) : d.D = .bytes (l.map (·.toUInt8)).toArray := by
  cases d with
  | byt x =>
    subst h
    show D.bytes x = D.bytes _
    congr 1
    apply Array.ext'
    have e : ((fun x => UInt8.ofNat x) ∘ fun x : UInt8 => x.toNat) = _root_.id := by funext y; simp
    simp [Td.txt, e]
  | str x => cases hk

noncomputable abbrev P_fix : {d : DefRec // defOf pw "_fix_eols" = some (d, [])} := ⟨_, rfl⟩
noncomputable abbrev R_fix : DefRec := P_fix.1
theorem t_fix {C : Cx} (pr : Pr C) (pt : PrT C) (x : Str) (hx : x.cps.size ≤ 100000) : Does C "_fix_eols" 1 [.str x] (.str ⟨(fixL x.cps.toList).toArray⟩) := by
  refine does (d := R_fix) (names := ["data"]) pr P_fix.2 rfl (by decide) rfl (fun pm cd doc vs hl => ?_) (by decide) (fun L a cd A s hid => ?_)
  · obtain ⟨v, rfl⟩ := len_1 hl; rfl
  · obtain ⟨t, hc⟩ := pt.crlf
    obtain ⟨pcs, h1, h2, h3⟩ := fix_res (x := .str x) (r := .str (Str.ofString "\r\n")) (by decide) hx
    have h4 := cat_txt (x := .str x) (res_kind' h1 rfl)
    refine ws_cons (w1_ret (Ev.cast (eq_str h4.2 (h4.1.trans h2)) (ev_sub_call (t := .str x) (r := .str (Str.ofString "\r\n")) pt.p3 (evs_cons (ev_globv hc (fun zz zz => .str _ _) rfl) (evs_cons vl evs_nil)) rfl lit_crlf (by show x.cps.size ≤ _; (clear h3 h4; lia)) (by decide) h1 h3 rfl)) rfl)
noncomputable abbrev P_qp : {d : DefRec // defOf pw "_quote_periods" = some (d, [])} := ⟨_, rfl⟩
noncomputable abbrev R_qp : DefRec := P_qp.1
theorem t_qp {C : Cx} (pr : Pr C) (pt : PrT C) (x : Array UInt8) (hx : x.size ≤ 200000) : Does C "_quote_periods" 1 [.bytes x] (.bytes ((quoL true (x.toList.map (·.toNat))).map (·.toUInt8)).toArray) := by
  refine does (d := R_qp) (names := ["bindata"]) pr P_qp.2 rfl (by decide) rfl (fun pm cd doc vs hl => ?_) (by decide) (fun L a cd A s hid => ?_)
  · obtain ⟨v, rfl⟩ := len_1 hl; rfl
  · have hx' : (Td.byt x).txt.size ≤ 200000 := by simpa [Td.txt] using hx
    obtain ⟨pcs, h1, h2, h3⟩ := quo_res (x := .byt x) (r := .byt #[46, 46]) (by simp [Td.txt]) hx'
    have h4 := cat_txt (x := .byt x) (res_kind' h1 rfl)
    have e : (Td.byt x).txt.toList = x.toList.map (·.toNat) := by simp [Td.txt]
    rw [e] at h2
    refine ws_cons (w1_ret (Ev.cast (eq_byt h4.2 (h4.1.trans h2)) (ev_sub_call (t := .byt x) (r := .byt #[46, 46]) pt.p2 (evs_cons ev_bytes (evs_cons vl evs_nil)) rfl lit_bdots (by (clear hx h3 h4; lia)) (by decide +kernel) h1 h3 rfl)) rfl)
noncomputable abbrev P_qd : {d : DefRec // defOf pw "quotedata" = some (d, [])} := ⟨_, rfl⟩
noncomputable abbrev R_qd : DefRec := P_qd.1
theorem fixL_len : ∀ l : List Nat, (fixL l).length ≤ 2 * l.length
  | [] => Nat.le_refl _
  | c :: r => by
    by_cases h : c = 10
    · subst h; rw [fixL_lf]; have := fixL_len r; simp only [List.length_cons]; lia
    · by_cases h2 : c = 13
      · subst h2
        cases r with
        | nil => decide
        | cons d r =>
          by_cases h3 : d = 10
          · subst h3; rw [fixL_crlf]; have := fixL_len r; simp only [List.length_cons]; (clear h; lia)
          · rw [fixL_cr h3]; have := fixL_len (d :: r); simp only [List.length_cons] at this ⊢; (clear h h3; lia)
      · rw [fixL_plain h h2]; have := fixL_len r; simp only [List.length_cons]; (clear h h2; lia)
theorem t_qd {C : Cx} (pr : Pr C) (pt : PrT C) (x : Str) (hx : x.cps.size ≤ 100000) : Does C "quotedata" 1 [.str x] (.str ⟨(quoL true (fixL x.cps.toList)).toArray⟩) := by
  refine does (d := R_qd) (names := ["data"]) pr P_qd.2 rfl (by decide) rfl (fun pm cd doc vs hl => ?_) (by decide) (fun L a cd A s hid => ?_)
  · obtain ⟨v, rfl⟩ := len_1 hl; rfl
  · obtain ⟨t, hc⟩ := pt.crlf
    obtain ⟨pcs, h1, h2, h3⟩ := fix_res (x := .str x) (r := .str (Str.ofString "\r\n")) (by decide) hx
    have h4 := cat_txt (x := .str x) (res_kind' h1 rfl)
    have e1 := eq_str h4.2 (h4.1.trans h2)
    have hl := fixL_len x.cps.toList
    obtain ⟨pcs', g1, g2, g3⟩ := quo_res (x := .str ⟨(fixL x.cps.toList).toArray⟩) (r := .str (Str.ofString "..")) (by decide) (by show (fixL x.cps.toList).toArray.size ≤ _; simp at hl ⊢; (clear h3 h4; lia))
    have g4 := cat_txt (x := .str ⟨(fixL x.cps.toList).toArray⟩) (res_kind' g1 rfl)
    have e2 := eq_str g4.2 (g4.1.trans g2)
    refine ws_cons (w1_ret (Ev.cast e2 (ev_sub_call (t := .str ⟨(fixL x.cps.toList).toArray⟩) (r := .str (Str.ofString "..")) pt.p1 (evs_cons ev_str (evs_cons (Ev.cast e1 (ev_sub_call (t := .str x) (r := .str (Str.ofString "\r\n")) pt.p3 (evs_cons (ev_globv hc (fun zz zz => .str _ _) rfl) (evs_cons vl evs_nil)) rfl lit_crlf (by show x.cps.size ≤ _; (clear h3 h4 hl g3 g4; lia)) (by decide) h1 h3 rfl)) evs_nil)) rfl lit_dots (by show (fixL x.cps.toList).toArray.size ≤ _; simp at hl ⊢; (clear h3 h4 g3 g4; lia)) (by decide) g1 g3 rfl)) rfl)
end Mine
/-! S10 -/
namespace Mine
open PySem PySem.W PySem.Spec PySem.Calls PyProof.Rows PySem.SeqAt
open PySem.Builtin PySem.Builtin._codecs

theorem road_ascii (id : String) (self : Value) (x : Str) (errors : Option Str) : encodeRoad id self x (Str.ofString "ascii") errors = (do mkBytes (← encodeNarrow id asciiCodec errors self x)) := by kernel_rfl
theorem droad_ascii {id : String} {b : Array UInt8} : _codecs.decodeRoad id b (PySem.Str.ofString "ascii") none [] = (_codecs.runDecoder id _codecs.asciiDecoder none true b 0 [] >>= fun r => mkStr ⟨r.1⟩) := by kernel_rfl
theorem encode_ascii (x : Str) (t u : Tok) : «str.encode» ⟨[.str x t, .str (Str.ofString "ascii") u], []⟩ = (do ret (← encodeRoad "str.encode" (.str x t) x (Str.ofString "ascii") none)) := by kernel_rfl
theorem decode_ascii {c : UInt8} {cs : List UInt8} {t u : Tok} : «bytes.decode» ⟨[.bytes (c :: cs).toArray t, .str (Str.ofString "ascii") u], []⟩ = (mkStr (PySem.Str.ofString "utf-8") >>= fun zz => mkStr (PySem.Str.ofString "ascii") >>= fun e => mkStr (PySem.Str.ofString "bytes.decode") >>= fun d =>
    call (.builtin "_codecs.decode.text") [.bytes (c :: cs).toArray t, e, .none, d] >>= fun v => ret v) := by kernel_rfl

section
variable {M : Model} {A : Around} {E : Value → Shared → Prop} {s : Shared}
theorem foldl_bytes (l : List Nat) (acc : Array UInt8) : l.foldl (fun acc y => acc ++ (asciiCodec.bytesOf y).toArray) acc = acc ++ (l.map (·.toUInt8)).toArray := by
  induction l generalizing acc with
  | nil => simp
  | cons c l ih =>
    rw [List.foldl_cons, ih]
    show acc ++ (#[c.toUInt8] : Array UInt8) ++ _ = _
    simp
/-- a loop whose first turn does it all -/
theorem wpAny_once {β : Type} {f : Nat → β → Sem (ForInStep β)} {b0 : β} (b1 : β) {Q : β → Shared → Prop} (l : List Nat) (h1 : l ≠ [] → ∀ k, ∀ R : ForInStep β → Shared → Prop, R (.yield b1) s → wpAny M A (f k b0) R E s) (h2 : ∀ k, ∀ R : ForInStep β → Shared → Prop, R (.done b1) s → wpAny M A (f k b1) R E s) (q : Q b1 s) (h0 : l = [] → b0 = b1) : wpAny M A (forIn l b0 f) Q E s := by
  cases l with
  | nil => rw [h0 rfl]; exact wpAny_pure q
  | cons k l =>
    rw [List.forIn_cons]
    refine wpAny_bind (h1 (List.cons_ne_nil _ _) k _ ?_)
    cases l with
    | nil => exact wpAny_pure q
    | cons k l =>
      show wpAny M A (forIn (k :: l) b1 f) Q E s
      rw [List.forIn_cons]
      exact wpAny_bind (h2 k _ (wpAny_pure q))
theorem narrow_any {id : String} {self : Value} {x : Str} {Q : Array UInt8 → Shared → Prop} (ha : ∀ c ∈ x.cps.toList, c < 128) (hz : x.cps.size ≤ 1048576) (q : Q (x.cps.toList.map (·.toUInt8)).toArray s) : wpAny M A (encodeNarrow id asciiCodec none self x) Q E s := by
  have hsl : (1048576 : Nat) ≤ sizeLine := by decide
  have hbad : ∀ c ∈ x.cps.toList, asciiCodec.bad c = false := fun c hc => decide_eq_false (Nat.not_le.mpr (ha c hc))
  have hf : Array.findIdx? asciiCodec.bad (x.cps.extract 0) = none := by
    rw [Array.findIdx?_eq_none_iff]
    exact fun y hy => hbad y (by simpa using hy)
  unfold encodeNarrow
  dsimp only
  rw [Std.Legacy.Range.forIn_eq_forIn_range']
  refine wpAny_bind (wpAny_once ⟨x.cps.size, (x.cps.toList.map (·.toUInt8)).toArray, {}⟩ _ (fun hl k R h => ?_) (fun k R h => ?_) (wpAny_pure q) fun hl => ?_)
  · have h0 : 0 < x.cps.size := by
      apply Nat.pos_of_ne_zero
      intro h0
      apply hl
      rw [show Std.Legacy.Range.size ⟨0, x.length, 1, Nat.one_pos⟩ = x.cps.size by simp [Std.Legacy.Range.size]; rfl, h0]; rfl
    refine wpAny_neg (Nat.not_lt_zero _) ?_
    rw [Array.getElem?_eq_getElem h0]
    refine wpAny_pos (by rw [hbad _ (by simp)]; rfl) ?_
    refine wpAny_pure ?_
    rw [hf]
    have e : (x.cps.extract 0 x.cps.size).extract 0 ((none : Option Nat).getD (x.cps.extract 0 x.cps.size).size) = x.cps := by simp
    rw [e, ← Array.foldl_toList, foldl_bytes, Array.empty_append]
    exact (congrArg (fun n => R (.yield (n, (x.cps.toList.map (·.toUInt8)).toArray, {})) s) (show 0 + (x.cps.extract 0).size = x.cps.size by simp)).mpr h
  · refine wpAny_neg (by simp; lia) ?_
    rw [show x.cps[x.cps.size]? = none by simp]
    exact wpAny_pure h
  · have h0 : x.cps = #[] := by
      apply Array.eq_empty_of_size_eq_zero
      have := congrArg List.length hl
      exact (by simpa [Std.Legacy.Range.size] using this : x.length = 0)
    rw [h0]; rfl
theorem decoder_any {id : String} {b : Array UInt8} {Q : Array Nat × Nat → Shared → Prop} (ha : ∀ c ∈ b.toList, c.toNat < 128) (hz : b.size ≤ 1048576) (q : Q ((b.toList.map (·.toNat)).toArray, b.size) s) : wpAny M A (runDecoder id asciiDecoder none true b 0 []) Q E s := by
  have hsl : (1048576 : Nat) ≤ sizeLine := by decide
  unfold runDecoder
  dsimp only
  rw [Std.Legacy.Range.forIn_eq_forIn_range', show Std.Legacy.Range.size ⟨0, b.size, 1, Nat.one_pos⟩ = b.size by simp [Std.Legacy.Range.size]]
  refine wpAny_bind (wpAny_range (fun k => (k, ((b.toList.take k).map (·.toNat)).toArray, ({} : Faults))) b.size 0 (fun k zz hk R h => ?_) ?_)
  · have hp : k < b.size := by rw [Nat.zero_add] at hk; exact hk
    refine wpAny_neg (by simp; grind) (wpAny_neg (Nat.not_le.mpr hp) ?_)
    have hc : (b.getD k 0).toNat < 128 := by
      have e : b.getD k 0 = b[k] := by simp [hp]
      rw [e]; exact ha _ (by simp)
    have hfd : asciiDecoder.find true b k = .text [(b.getD k 0).toNat] (k + 1) := by
      show (if (b.getD k 0).toNat < 128 then _ else _) = _
      rw [if_pos hc]; rfl
    rw [hfd]
    refine wpAny_pure ?_
    rw [List.take_add_one] at h
    have e : ((b.toList.take k ++ b.toList[k]?.toList).map (·.toNat)).toArray = ((b.toList.take k).map (·.toNat)).toArray ++ [(b.getD k 0).toNat].toArray := by simp [hp]
    rw [e] at h
    exact h
  · rw [Nat.zero_add, List.take_of_length_le (by simp)]
    exact wpAny_pure q
end
end Mine
/-! S11 -/
namespace Mine
open PySem PySem.W PySem.Spec PySem.Calls PyProof.Rows PySem.SeqAt
open PySem.Builtin PySem.Builtin._codecs

theorem args_decode_2 (a b : Value) : argsOk "bytes.decode" ⟨[a, b], []⟩ := by unfold argsOk; kernel_rfl
theorem call_encode {C : Cx} {x : Str} (ha : ∀ c ∈ x.cps.toList, c < 128) (hz : x.cps.size ≤ 1048576) : Call C 0 (.builtin "str.encode") [.str x, .str (Str.ofString "ascii")] (.bytes (x.cps.toList.map (·.toUInt8)).toArray) := by
  intro A hid s vs Q E rm g bd r q
  obtain ⟨v, w, rfl, rv, rw'⟩ := r.two
  obtain ⟨t, rfl⟩ := rv.str_inv
  obtain ⟨u, rfl⟩ := rw'.str_inv
  have hsl : (1048576 : Nat) ≤ sizeLine := by decide
  refine call_meets (S := fun A R s₁ => R (.ok (.ret (.bytes (x.cps.toList.map (·.toUInt8)).toArray s₁.toks))) { s₁ with toks := s₁.toks + 1 }) PySem.F.slot_str_encode (typeIs_str _ _ _) PySem.F.entry_str_encode (PySem.F.args_str_encode_2 _ _) ?_ (q _ _ (Ex.toks g) (.bytes _ _))
  refine Meets.of_wp fun prog w A R s₁ h => ?_
  rw [encode_ascii, road_ascii]
  refine wpAny_bind (wpAny_bind (narrow_any ha hz ?_))
  exact wpAny_mkBytes (wpAny_pure ⟨_, rfl, h⟩) (by simp; lia)
theorem meets_text_ascii {b : Array UInt8} {t t1 t2 : Tok} {d : Str} (ha : ∀ c ∈ b.toList, c.toNat < 128) (hz : b.size ≤ 1048576) :
    Meets («_codecs.decode.text» ⟨[.bytes b t, .str (Str.ofString "ascii") t1, .none, .str d t2], []⟩) (fun zz R s => R (.ok (.ret (.str ⟨(b.toList.map (·.toNat)).toArray⟩ s.toks))) { s with toks := s.toks + 1 }) := by
  have hsl : (1048576 : Nat) ≤ sizeLine := by decide
  refine .of_wp fun prog w A R s h => ?_
  show wpAny _ _ (Bytes.bytesLike _ (.bytes b t) >>= fun r => _) _ _ s
  refine wpAny_bind (wpAny_of_eq KBd.like_eq ?_)
  refine wpAny_bind (wpAny_of_eq KBd.held_eq ?_)
  show wpAny _ _ (_codecs.decodeRoad _ b (Str.ofString "ascii") none [] >>= fun v => _) _ _ s
  rw [droad_ascii]
  refine wpAny_bind (wpAny_bind (decoder_any ha hz ?_))
  exact wpAny_mkStr (wpAny_pure ⟨_, rfl, h⟩) (by show (b.toList.map (·.toNat)).toArray.size ≤ _; simp; lia)
theorem call_decode {C : Cx} {c : UInt8} {cs : List UInt8} (ha : ∀ y ∈ c :: cs, y.toNat < 128) (hz : (c :: cs).length ≤ 1048576) : Call C 0 (.builtin "bytes.decode") [.bytes (c :: cs).toArray, .str (Str.ofString "ascii")] (.str ⟨((c :: cs).map (·.toNat)).toArray⟩) := by
  intro A hid s vs Q E rm g bd r q
  obtain ⟨v, w, rfl, rv, rw'⟩ := r.two
  obtain ⟨t, rfl⟩ := rv.bytes_inv
  obtain ⟨u, rfl⟩ := rw'.str_inv
  refine call_meets (S := fun A R s₁ => s₁ = s ∧ ∀ t' k, R (.ok (.ret (.str ⟨((c :: cs).map (·.toNat)).toArray⟩ t'))) { s₁ with toks := k }) FB.slot_bytes_decode (typeIs_bytes _ _ _) FB.entry_bytes_decode (args_decode_2 _ _) ?_ ⟨rfl, fun t' k => q _ _ (Ex.toks g) (.str _ _)⟩
  refine Meets.of_wp fun prog w A R s₁ h => ?_
  obtain ⟨rfl, h⟩ := h
  rw [decode_ascii]
  refine wpAny_bind (wpAny_mkStr ?_ (by decide))
  refine wpAny_bind (wpAny_mkStr ?_ (by decide))
  refine wpAny_bind (wpAny_mkStr ?_ (by decide))
  exact wpAny_bind (call_function_meets KBd.kind_text KBd.plain_text KBd.entry_text (KBd.args_text _ _ _ _) (meets_text_ascii (by simpa using ha) (by simpa using hz)) (wpAny_pure ⟨_, rfl, h _ _⟩))
end Mine
/-! S12 -/
namespace Mine
open PySem PySem.W PySem.Spec PySem.Calls PyProof.Rows PySem.SeqAt

/-! ## a def that yields: its statements -/
section
variable {M : Model} {A : Around} {R : GenEnd} {Y : Protocol} {n : Nat} {s₀ : Shared} {c : Code} {fs : List PySem.Frame} {s : Shared} {env : Env}
  {K : Flow → Sem PySem.Fin} {H : Value → Sem PySem.Fin} {gd : Bool → Bool} {lv : List Value → List Value}
theorem seg_stmt {α : Type} {m : Sem α} {K : α → Sem PySem.Fin} (h : wpAny M (A.over c fs) m (fun f s' => Seg M A R Y n s₀ c (K f) fs s') (fun zz zz => False) s) : Seg M A R Y n s₀ c (m.wrap K H gd lv) fs s :=
  seg_wrap (wpAny_mono h (fun zz zz x => x) fun zz zz x => x.elim)
theorem seg_bind' {α β : Type} {m : Sem α} {K : α → Sem β} {K' : β → Sem PySem.Fin}
    (h : wpAny M (A.over c fs) m (fun a s' => Seg M A R Y n s₀ c ((K a).wrap K' H gd lv) fs s') (fun zz zz => False) s) : Seg M A R Y n s₀ c ((m >>= K).wrap K' H gd lv) fs s :=
  seg_bind_wrap (wpAny_mono h (fun zz zz x => x) fun zz zz x => x.elim)
theorem seg_If {test : Expr} {body orelse : List Stmt} {pos : Pos}
    (h : wpAny M (A.over c fs) (isTrue test env (eval test env)) (fun b s' => if b = true then Seg M A R Y n s₀ c ((execs body env).wrap K H gd lv) fs s' else Seg M A R Y n s₀ c ((execs orelse env).wrap K H gd lv) fs s') (fun zz zz => False) s) :
    Seg M A R Y n s₀ c ((exec (.If test body orelse pos) env).wrap K H gd lv) fs s := by
  rw [arm_exec_If]
  refine seg_bind' (wpAny_standAt ?_)
  refine seg_bind' (wpAny_mono h (fun b s' h => ?_) fun zz zz x => x)
  cases b with
  | true => rw [if_pos rfl] at h; exact h
  | false => rw [if_neg Bool.false_ne_true] at h; exact h
theorem seg_For {target iter : Expr} {body orelse : List Stmt} {pos : Pos} (hs : ∀ x, foldedSetIterable iter env x = pure x)
    (h : wpAny M (A.over c fs) (eval iter env) (fun x s₁ => wpAny M (A.over c fs) (pyIter x) (fun it s₂ => ∀ p, Seg M A R Y n s₀ (.forLoop target it body orelse env) (M.den (.forLoop target it body orelse env))
      (.ret (fun r => ((match r with | .ok f => (.pure f : Sem Flow) | .error e => .raise e).onRaise fun (x : Value) => do
        if (← field x 1) == Value.none then unsupported "frame.own-activation:exception-without-traceback"
        setFlight x env.frame).wrap K H gd lv) none (gd false) (lv []) c p [] :: fs) s₂) (fun zz zz => False) s₁) (fun zz zz => False) s) :
    Seg M A R Y n s₀ c ((exec (.For target iter body orelse pos) env).wrap K H gd lv) fs s := by
  rw [exec_For]
  refine seg_bind' (wpAny_standAt ?_)
  refine seg_bind' (wpAny_mono h (fun x s₁ h₁ => ?_) fun zz zz x => x)
  rw [hs]
  refine seg_bind' (wpAny_pure ?_)
  refine seg_bind' (wpAny_standAt ?_)
  refine seg_bind' (wpAny_holding (wpAny_mono h₁ (fun it s₂ h₂ => ?_) fun zz zz x => x))
  exact seg_call h₂
end
section
variable {prog : Program} {w : World} {A : Around} {R : GenEnd} {Y : Protocol} {n : Nat} {s₀ : Shared} {fs : List PySem.Frame} {s : Shared} {env : Env}
/-- what is done with what a turn raises -/
noncomputable abbrev turnH (env : Env) : Value → Sem PySem.Fin := fun e => (do noteFrame e env; theTreesLotGoes e : Sem Unit).bind fun zz => .raise e
theorem seg_forLoop {target : Expr} {it : Value} {body : List Stmt}
    (h : wpAny (model prog w) (A.over (.forLoop target it body [] env) fs) (pyNext it) (fun r s₁ => match r with
      | none => Seg (model prog w) A R Y n s₀ (.block [] env) (.pure (.done .next)) fs s₁
      | some v => wpAny (model prog w) (A.over (.forLoop target it body [] env) fs) (letOwnedTupleGo target it v) (fun zz s₂ => wpAny (model prog w) (A.over (.forLoop target it body [] env) fs) (assign target env v) (fun zz s₃ =>
          Seg (model prog w) A R Y n s₀ (.forLoop target it body [] env) ((execs body env).wrap (fun f => match f with
            | .next | .cont => .pure (.again (.forLoop target it body [] env))
            | .brk => .pure (.done .next)
            | .ret v => .pure (.done (.ret v))) (turnH env) id id) fs s₃) (fun zz zz => False) s₂) (fun zz zz => False) s₁) (fun zz zz => False) s) :
    Seg (model prog w) A R Y n s₀ (.forLoop target it body [] env) ((model prog w).den (.forLoop target it body [] env)) fs s := by
  show Seg _ A R Y n s₀ _ ((forTurn target it body [] env).onRaise (fun x => do noteFrame x env; theTreesLotGoes x)) fs s
  unfold forTurn
  rw [Sem.onRaise_eq_wrap]
  refine seg_bind' (wpAny_standAt ?_)
  refine seg_bind' (wpAny_onRaise (wpAny_mono h (fun r s₁ h₁ => ?_) fun zz zz x => x.elim))
  cases r with
  | none =>
    show Seg _ A R Y n s₀ _ (.pure (.again (.block [] env))) fs s₁
    refine seg_again (by first | rfl | decide) ?_
    exact h₁
  | some v =>
    refine seg_bind' (wpAny_mono h₁ (fun zz s₂ h₂ => ?_) fun zz zz x => x)
    refine seg_bind' (wpAny_mono h₂ (fun zz s₃ h₃ => ?_) fun zz zz x => x)
    rw [Sem.bind_eq_wrap', Sem.wrap_wrap]
    refine Eq.mp (congrArg (fun t => Seg (model prog w) A R Y n s₀ (.forLoop target it body [] env) t fs s₃) ?_) h₃
    refine Sem.wrap_congr (execs body env) _ _ (fun f => ?_) (fun e => rfl)
    cases f <;> rfl
end
end Mine
/-! S13 -/
namespace Mine
open PySem PySem.W PySem.Spec PySem.Calls PyProof.Rows PySem.SeqAt

section
variable {C : Cx} {F : Fx} {ρ : Store}
/-- what is pinned moves, and there may be more of it -/
theorem Frm.move {W : Wt} {s s' : Shared} {ps ps' news : List (Addr × Obj)} {gens' : Array GenState} (f : Frm C { F with pins := ps } W ρ s) (g' : Gd C s') (hs : ∀ b o, C.off b → b ∉ ps.map (·.1) → s.heap.get? b = some o → s'.heap.get? b = some o)
    (hp : ps'.map (·.1) = ps.map (·.1)) (hp' : ∀ p ∈ ps' ++ news, s'.heap.get? p.1 = some p.2 ∧ NoCode p.2) (hn : ∀ p ∈ news, s.heap.get? p.1 = none) (hnd : (news.map (·.1)).Nodup) (hgen : ∀ (i : Nat) (x : GenState), gens'[i]? = some x → s'.gens[i]? = some x) :
    Frm C { F with pins := ps' ++ news, gens := gens' } { W with hid := fun b => W.hid b ∨ b ∈ news.map (·.1) } ρ s' := by
  have old : ∀ a ∈ ps.map (·.1), C.off a ∧ W.hid a ∧ a ≠ F.env.locals ∧ F.sc.get? a = none ∧ (∀ x c, F.env.cells.lookup x = some c → c ≠ a) ∧ ∃ o, s.heap.get? a = some o := fun a ha => by
    obtain ⟨p, hp, rfl⟩ := List.mem_map.mp ha
    obtain ⟨k1, k2, k3, k4, k5, k6⟩ := f.pins p hp
    exact ⟨k2, k3, k4, k5, f.pcell p hp, _, k1⟩
  have offd : ∀ {b ob}, s.heap.get? b = some ob → (∀ vs, ob.data ≠ .fields vs) → C.off b := fun e h => f.gd.off e h
  have nw : ∀ b o, s.heap.get? b = some o → b ∉ news.map (·.1) := fun b o e q => by
    obtain ⟨p, hp, rfl⟩ := List.mem_map.mp q
    exact no_at e (hn p hp) rfl
  have rpk : ∀ {v d}, Rp W.hid s.heap v d → Rp (fun b => W.hid b ∨ b ∈ news.map (·.1)) s'.heap v d := fun r => r.mono fun b ob n e hcl => ⟨fun q => q.elim n (nw b ob e), hs b ob (f.gd.offq e hcl) (fun q => n (old b q).2.1) e⟩
  have rpks : ∀ {v d}, Rps W.hid s.heap v d → Rps (fun b => W.hid b ∨ b ∈ news.map (·.1)) s'.heap v d := fun r => r.mono fun b ob n e hcl => ⟨fun q => q.elim n (nw b ob e), hs b ob (f.gd.offq e hcl) (fun q => n (old b q).2.1) e⟩
  obtain ⟨oN, es, ep, eN, dN, rN⟩ := f.ns
  have hmap : (ps' ++ news).map (·.1) = ps.map (·.1) ++ news.map (·.1) := by rw [List.map_append, hp]
  have pin : ∀ p ∈ ps' ++ news, p.1 ∈ ps.map (·.1) ∨ (p.1 ∈ news.map (·.1) ∧ s.heap.get? p.1 = none) := fun p hp2 => by
    rcases List.mem_append.mp hp2 with h | h
    · exact .inl (hp ▸ List.mem_map_of_mem h)
    · exact .inr ⟨List.mem_map_of_mem h, hn p h⟩
  refine { gd := g', ok := f.ok, rm := f.rm, kind := f.kind, glob := f.glob, blt := f.blt, ns := ?ns, cells := ?cells, cinj := f.cinj, vals := ?vals, apart := f.apart, sc := ?sc, scg := f.scg, lloc := f.lloc, gens := hgen, hL := .inl f.hL, hH := fun b q => .inl (f.hH b q), Hb := f.Hb, bd := ?bd,
           cfree := ?cfree, owns := ?owns, pins := ?pins, pcell := ?pcell, pinj := ?pinj, seen := fun p hp => rpk (f.seen p hp) }
  case ns => exact ⟨oN, es, ep, hs _ _ (offd eN (fun zz q => by rw [dN] at q; cases q)) (fun q => (old _ q).2.2.1 rfl) eN, dN, rN⟩
  case cells =>
    intro y c e1
    obtain ⟨ob, e, hd⟩ := f.cells y c e1
    exact ⟨ob, hs _ _ (offd e (fun zz q => by rw [hd] at q; cases q)) (fun q => (old _ q).2.2.2.2.1 y c e1 rfl) e, hd⟩
  case vals =>
    intro y d e1
    obtain ⟨v, e2, r⟩ := f.vals y d e1
    exact ⟨v, e2, rpk r⟩
  case sc =>
    intro b ob n e
    exact hs b ob n (fun q => no_at e (old b q).2.2.2.1 rfl) (f.sc b ob n e)
  case bd =>
    intro b q
    by_cases hb : b ∈ (ps' ++ news).map (·.1)
    · obtain ⟨p, hp2, rfl⟩ := List.mem_map.mp hb
      exact ⟨_, (hp' p hp2).1⟩
    · rcases q with q | q
      · obtain ⟨ob, e⟩ := f.bd b q
        exact (off_or g' b).elim (fun h => ⟨ob, hs b ob h (fun z => hb (hmap ▸ List.mem_append_left _ z)) e⟩) id
      · exact absurd (hmap ▸ List.mem_append_right _ q) hb
  case cfree =>
    intro hcs y c e1 e2
    obtain ⟨a1, b1, c1, d1⟩ := f.cfree hcs y c e1 e2
    obtain ⟨ob, ec, hd⟩ := f.cells y c e1
    refine ⟨a1, b1, .inl c1, fun p hp2 q => ?_⟩
    rcases pin p hp2 with h | ⟨h, h2⟩
    · exact (old p.1 h).2.2.2.2.1 y c e1 q
    · exact no_at ec h2 q
  case owns =>
    intro y d e1
    obtain ⟨v, e2, r⟩ := f.owns y d e1
    obtain ⟨b, vs, n, q1, q2, q3, q4, q5, q6, q7, q8⟩ := r
    refine ⟨v, e2, ⟨b, vs, n, q1, hs _ _ (offd q2 (fun zz q => by cases q)) (fun z => ?_) q2, rpks q3, .inl q4, q5, q6, q7, fun p hp2 z => ?_⟩⟩
    · obtain ⟨p, hp, hz⟩ := List.mem_map.mp z
      exact q8 p hp hz.symm
    · rcases pin p hp2 with h | ⟨h, h2⟩
      · obtain ⟨p', hp', hz⟩ := List.mem_map.mp h
        exact q8 p' hp' (z.trans hz.symm)
      · exact no_at q2 h2 z
  case pins =>
    intro p hp2
    obtain ⟨e1, e2⟩ := hp' p hp2
    rcases pin p hp2 with h | ⟨h, h2⟩
    · obtain ⟨a1, a2, a3, a4, a5, _⟩ := old p.1 h
      exact ⟨e1, a1, .inl a2, a3, a4, e2⟩
    · have ho : C.off p.1 := off_of_new f.gd h2
      refine ⟨e1, ho, .inr h, fun z => no_at eN h2 z.symm, ?_, e2⟩
      cases q : F.sc.get? p.1 with
      | none => rfl
      | some o => exact no_at (f.sc p.1 o ho q) h2 rfl
  case pcell =>
    intro p hp2 y c e1 z
    rcases pin p hp2 with h | ⟨h, h2⟩
    · exact (old p.1 h).2.2.2.2.1 y c e1 z
    · obtain ⟨ob, ec, hd⟩ := f.cells y c e1
      exact no_at ec h2 z
  case pinj =>
    rw [hmap, List.nodup_append]
    refine ⟨f.pinj, hnd, fun a ha b hb z => ?_⟩
    obtain ⟨_, _, _, _, _, o, eo⟩ := old a ha
    exact nw a o eo (z ▸ hb)
theorem Frm.around {W : Wt} {s : Shared} {A' : Around} (f : Frm C F W ρ s) (rm : Rm C A' F.k) : Frm C { F with A := A' } W ρ s := { f with rm := rm, owns := fun y d e => (f.owns y d e).imp fun zz q => ⟨q.1, q.2.to rfl rfl rfl⟩ }

/-- a tuple is made, and it is new -/
theorem tup_new {es : List Expr} {k : Nat} {p : Pos} {ds : List D} (h : Evs C F ρ p es ds) {W : Wt} {s : Shared} {Q : Value → Shared → Prop} {E : Value → Shared → Prop} (f : Frm C F W ρ s) (hz : ds.length ≤ sizeLine)
    (q : ∀ vs s₁, Ex C s s₁ → Rps W.hid s₁.heap vs ds → Q (.ref s₁.heap.objs.size) { s₁ with heap := s₁.heap.push { cls := .type "tuple", data := .seq vs.toArray 0 } }) : wpAny (model C.prog C.w) F.A (eval (.Tuple es k p) F.env) Q E s :=
  Tuple_ (h.2 W s _ _ f fun vs s₁ x r => by
    have hl := r.length
    exact wpAny_newObj_type (q vs s₁ x r) (by show vs.toArray.size ≤ sizeLine; rw [List.size_toArray, hl]; exact hz))
/-- a store of a constant: nothing new -/
theorem assign_raw {W : Wt} {s : Shared} {x : Str} {p' p : Pos} {e : Expr} {d : D} (f : Frm C F W ρ s) (he : ∀ (Q : Value → Shared → Prop) (E : Value → Shared → Prop), (∀ v k, Rp W.hid s.heap v d → Q v { s with toks := k }) → wpAny (model C.prog C.w) F.A (eval e F.env) Q E s)
    (hl : F.env.kindOf x = some .local) (hs : swapsWith e (some (.Name x p')) p.line F.env = pure false) {E : Value → Shared → Prop} {Q : Flow → Shared → Prop}
    (q : ∀ W' s', s'.heap.objs.size = s.heap.objs.size → W'.hid = W.hid → s'.gens = s.gens → (∀ b o, b ≠ F.env.locals → s.heap.get? b = some o → s'.heap.get? b = some o) → Frm C F W' ((x, .val d) :: ρ) s' → Q .next s') : wpAny (model C.prog C.w) F.A (exec (.Assign [.Name x p'] e p) F.env) Q E s :=
  wpAny_Assign_Name (he _ _ fun v k r => by
    have f₁ := f.ex (Ex.toks (tk := k) f.gd)
    exact wpAny_storeName_local hl f₁.ns (fun h' hn hs' => q _ _ hs'.1 (by exact rfl) rfl (fun b o nb e => (hs'.2 b nb).trans e) (f₁.put (sl := .val d) hl r (fun es q => by cases q) hn hs')) (stp f₁.kind)) hs
end
end Mine
/-! S14 -/
namespace Mine
open PySem PySem.W PySem.Spec PySem.Calls PyProof.Rows PySem.SeqAt

noncomputable def Imm : D → Prop
  | .none | .bool _ | .int _ | .str _ => True
  | _ => False
theorem Rp.imm {hid hid' : Addr → Prop} {h h' : Heap} {v : Value} {d : D} (hi : Imm d) (r : Rp hid h v d) : Rp hid' h' v d := by
  cases r <;> first | exact hi.elim | constructor

theorem Rps.imm {hid hid' : Addr → Prop} {h h' : Heap} : ∀ {vs : List Value} {ds : List D}, (∀ d ∈ ds, Imm d) → Rps hid h vs ds → Rps hid' h' vs ds
  | [], _, _, r => by cases r; exact .nil
  | v :: vs, _, hi, r => by cases r with | cons a b => exact .cons (a.imm (hi _ (.head _))) (Rps.imm (fun d hd => hi d (.tail _ hd)) b)

/-! ## `_iter_escaped_chars` -/
noncomputable def escF : Nat → Bool → List Nat → List (Nat × List Nat)
  | k, true, [] => [(k - 1, [92])]
  | _, false, [] => []
  | k, true, c :: r => (k, [92, c]) :: escF (k + 1) false r
  | k, false, c :: r => if c = 92 then escF (k + 1) true r else (k, [c]) :: escF (k + 1) false r
noncomputable def escEnd : Bool → List Nat → Bool
  | e, [] => e
  | true, _ :: r => escEnd false r
  | false, c :: r => escEnd (decide (c = 92)) r
noncomputable def escD (p : Nat × List Nat) : D := .tup [.int (p.1 : Int), .str ⟨p.2.toArray⟩]

noncomputable abbrev P_gen : {d : DefRec // defOf pw "_iter_escaped_chars" = some (d, [])} := ⟨_, rfl⟩
noncomputable abbrev R_gen : DefRec := P_gen.1
noncomputable abbrev G_gen : {p : (Expr × List Stmt) × Stmt // ∃ x y it ps, R_gen.body = [x, y, .For p.1.1 it p.1.2 [] ps, p.2]} := ⟨((_, _), _), _, _, _, _, rfl⟩
noncomputable abbrev gTgt : Expr := G_gen.1.1.1
noncomputable abbrev gBody : List Stmt := G_gen.1.1.2
noncomputable abbrev gLast : List Stmt := [G_gen.1.2]
noncomputable abbrev gEnv (L a : Addr) (cd : Value) : Env := envOf "_iter_escaped_chars" R_gen.scope L a cd

noncomputable abbrev gF (env : Env) (A' : Around) (s₀ : Shared) (priv : List Addr) (pins : List (Addr × Obj)) : Fx := { env := env, A := A', k := 3, cst := true, sc := hideAll s₀.heap priv, H := fun zz => False, pins := pins, seen := [], gens := s₀.gens }
section
variable {C : Cx} {L a : Addr} {cd : Value} {A' : Around} {s : Shared} {priv : List Addr} {pins : List (Addr × Obj)} {m : Str → Option Value} {ρ : Store}
theorem gen_frm (ok : C.Ok) (g : Gd C s) (rm : Rm C A' 3) (hns : s.heap.Ns L m) (hL : L ∈ priv) (hpr : ∀ b ∈ priv, C.gh.get? b = none ∧ ∃ o, s.heap.get? b = some o)
    (vals : ∀ x sl, ρ.lookup x = some sl → ∃ d v, sl = .val d ∧ m x = some v ∧ (gEnv L a cd).kindOf x = some .local ∧ Imm d ∧ Rp (fun zz => False) s.heap v d)
    (hpins : ∀ p ∈ pins, s.heap.get? p.1 = some p.2 ∧ p.1 ∈ priv ∧ p.1 ≠ L ∧ NoCode p.2 ∧ C.off p.1) (hnd : (pins.map (·.1)).Nodup) :
    Frm C (gF (gEnv L a cd) A' s priv pins) { m := m, cm := fun zz => none, hid := fun b => b ∈ priv } ρ s :=
  { gd := g, ok := ok, rm := rm, kind := rfl, glob := rfl, blt := rfl, ns := hns, cells := fun y c e => (by cases e), cfree := fun zz y c e => (by cases e), cinj := fun y z c e => (by cases e)
    vals := fun x d e => by
      obtain ⟨d', v, e1, e2, e3, e4, e5⟩ := vals x _ e
      cases e1
      exact ⟨v, by rw [Wt.get_of_local e3]; exact e2, e5.imm e4⟩
    owns := fun x ds e => by obtain ⟨d', v, e1, _⟩ := vals x _ e; cases e1
    apart := fun x y ds es v e => by obtain ⟨d', v, e1, _⟩ := vals x _ e; cases e1
    sc := fun b o n e => of_hideAll _ e
    scg := fun b o e => hideAll_get _ (g.keep b o e) (fun q => by rw [(hpr b q).1] at e; cases e)
    lloc := hideAll_none _ hL
    pins := fun p hp => have q := hpins p hp; ⟨q.1, q.2.2.2.2, q.2.1, q.2.2.1, hideAll_none _ q.2.1, q.2.2.2.1⟩
    pcell := fun p hp y c e => (by cases e)
    pinj := hnd
    seen := fun p hp => nomatch hp
    gens := fun i x e => e
    hL := hL
    hH := fun b q => q.elim
    Hb := fun b q => q.elim
    bd := fun b q => (hpr b q).2 }

/-- from one state of a segment to another -/
structure Stp (C : Cx) (priv : List Addr) (s s' : Shared) : Prop where
  gd : Gd C s'
  keep : ∀ b o, C.off b → b ∉ priv → s.heap.get? b = some o → s'.heap.get? b = some o
  gens : ∀ (i : Nat) (x : GenState), s.gens[i]? = some x → s'.gens[i]? = some x
theorem Stp.refl (g : Gd C s) : Stp C priv s s := ⟨g, fun zz zz zz zz e => e, fun zz zz e => e⟩
theorem Stp.trans {s' s'' : Shared} (x : Stp C priv s s') (y : Stp C priv s' s'') : Stp C priv s s'' := ⟨y.gd, fun b o n h e => y.keep b o n h (x.keep b o n h e), fun i z e => y.gens i z (x.gens i z e)⟩
theorem Stp.of_ex {s' : Shared} (x : Ex C s s') : Stp C priv s s' := ⟨x.gd, fun b o n zz e => x.keep b o n e, x.gens⟩
theorem gen_stp {W : Wt} {env : Env} {s' : Shared} (f : Frm C (gF env A' s priv pins) W ρ s') : Stp C priv s s' := ⟨f.gd, fun b o n h e => f.sc b o n (hideAll_get _ e h), f.gens⟩

/-- what the def has in hand between its turns -/
structure GS (C : Cx) (L En It : Addr) (x : Str) (t : Tok) (k : Nat) (esc : Bool) (p : Int) (s : Shared) : Prop where
  gd : Gd C s
  ns : ∃ m, s.heap.Ns L m ∧ m "escape" = some (.bool esc) ∧ ∃ tk, m "pos" = some (.int p tk)
  en : ∃ old, IsEnum s.heap En It k old
  it : s.heap.IsStrIter It (strIterType x) x t k
theorem GS.same {En It : Addr} {x : Str} {t : Tok} {k : Nat} {esc : Bool} {p : Int} {s' : Shared} (h : GS C L En It x t k esc p s) (g : Gd C s') (e : ∀ b ∈ [L, En, It], s'.heap.get? b = s.heap.get? b) : GS C L En It x t k esc p s' := by
  obtain ⟨m, ⟨o, es, ep, h1, h2⟩, h3⟩ := h.ns
  obtain ⟨old, h4⟩ := h.en
  obtain ⟨o2, h5, h6⟩ := h.it
  exact ⟨g, ⟨m, ⟨o, es, ep, (e L (by simp)).trans h1, h2⟩, h3⟩, ⟨old, (e En (by simp)).trans h4⟩, ⟨o2, (e It (by simp)).trans h5, h6⟩⟩

/-- what is told of a turn -/
noncomputable def GY (C : Cx) (priv : List Addr) (items : List D) : Protocol := fun n s₀ v s₁ kap =>
  Stp C priv s₀ s₁ ∧ (∃ ds T o vs, items[items.length - 1 - n]? = some (.tup ds) ∧ v = .ref T ∧ s₀.heap.get? T = none ∧ T ∉ priv ∧ s₁.heap.get? T = some o ∧ IsSeq "tuple" vs o ∧ ∀ hid h, Rps hid h vs ds) ∧
    (∀ b ∈ priv, ∃ o, s₁.heap.get? b = some o ∧ NoCode o) ∧ ∀ s'' : Shared, Gd C s'' → (∀ b ∈ priv, s''.heap.get? b = s₁.heap.get? b) → kap (.send .none) s''
noncomputable def GR (C : Cx) (priv : List Addr) : GenEnd := fun n s₀ r s₁ => r = .ok (.ret .none) ∧ (n = 0 ∧ Stp C priv s₀ s₁)
end

theorem str_draws {prog : Program} {w : World} {A : Around} (hh : A.handled = none) (it : Addr) (x : Str) (t : Tok) :
    Draws prog w A it [it] x.cps.size (fun i v => ∃ c u, x.cps[i]? = some c ∧ v = .str ⟨#[c]⟩ u) (fun i h => h.IsStrIter it (strIterType x) x t i) := by
  have h : strIterType x = "str_ascii_iterator" ∨ strIterType x = "str_iterator" := by
    unfold strIterType; split <;> simp
  rcases h with e | e <;> rw [e]
  · exact Draws.strAscii hh it x t
  · exact Draws.strWide hh it x t
theorem sget_none {h : Heap} {b : Addr} (hb : h.objs.size ≤ b) : h.get? b = none := Heap.get?_none_of_le hb

section
variable {C : Cx} {L a En It : Addr} {cd : Value} {A : Around} {x : Str} {t : Tok}
theorem End.next {C : Cx} {F : Fx} {K : Store → Prop} {f : Flow} {s : Shared} {P : Prop} (h : End C F (fun fl ρ => fl = .next ∧ K ρ) f s) (q : ∀ W ρ, f = .next → Frm C F W ρ s → K ρ → P) : P := by
  obtain ⟨W, ρ, fl, f', rf, hfl, k⟩ := h
  rw [hfl] at rf
  exact q W ρ rf.of_next f' k
theorem off_cls {s : Shared} {b : Addr} {o : Obj} {T : String} (g : Gd C s) (h0 : C.hd = none) (e : s.heap.get? b = some o) (hc : o.cls = .type T) : C.off b := by
  refine ⟨fun q => ?_, fun q => ?_, fun p hp => ?_⟩
  · obtain ⟨ps, e2, _⟩ := g.ta; rw [← q, e] at e2; cases e2; cases hc
  · obtain ⟨ps, e2, _⟩ := g.tb; rw [← q, e] at e2; cases e2; cases hc
  · rw [h0] at hp; cases hp
noncomputable def GE (It : Addr) (k : Nat) (o : Obj) : Prop := ∃ old, o = { cls := .type "enumerate", dict := none, data := .fields #[.none, .bool false, .ref It, rawInt (k : Int), .none, old], slots := #[] }
noncomputable def GI (x : Str) (t : Tok) (k : Nat) (o : Obj) : Prop := o.cls = .type (strIterType x) ∧ o.data = .fields #[.str x t, .int (k : Int) 0]
theorem GE.no {It : Addr} {k : Nat} {o : Obj} (h : GE It k o) : NoCode o := fun vs q => by
  obtain ⟨old, e⟩ := h
  rw [e] at q
  cases q
  intro q t z; cases z
theorem GI.no {k : Nat} {o : Obj} (h : GI x t k o) : NoCode o := fun vs q => by
  rw [h.2] at q
  cases q
  intro q t z; cases z
theorem GS.three {s : Shared} {k : Nat} {esc : Bool} {p : Int} (h : GS C L En It x t k esc p s) : ∃ oL oE oI, s.heap.get? L = some oL ∧ NoCode oL ∧ C.off L ∧ s.heap.get? En = some oE ∧ GE It k oE ∧ s.heap.get? It = some oI ∧ GI x t k oI := by
  obtain ⟨m, ⟨o, es, ep, h1, h2, _⟩, _⟩ := h.ns
  obtain ⟨old, h4⟩ := h.en
  obtain ⟨o2, h5, h6⟩ := h.it
  have nf : ∀ vs, o.data ≠ .fields vs := fun vs q => by rw [h2] at q; cases q
  exact ⟨o, _, o2, h1, fun vs q => (nf vs q).elim, h.gd.off h1 nf, h4, ⟨old, rfl⟩, h5, h6⟩
theorem GS.priv {s : Shared} {k : Nat} {esc : Bool} {p : Int} (h : GS C L En It x t k esc p s) : ∀ b ∈ [L, En, It], ∃ o, s.heap.get? b = some o ∧ NoCode o := by
  obtain ⟨oL, oE, oI, h1, h2, _, h3, h4, h5, h6⟩ := h.three
  exact all3 ⟨_, h1, h2⟩ ⟨_, h3, h4.no⟩ ⟨_, h5, h6.no⟩
/-- the frame of the def, made anew -/
theorem GS.frm {s : Shared} {k : Nat} {esc : Bool} {p : Int} {A' : Around} (h : GS C L En It x t k esc p s) (ok : C.Ok) (h0 : C.hd = none) (rm : Rm C A' 3) (hg : ∀ b ∈ [L, En, It], C.gh.get? b = none) (hd : L ≠ En ∧ L ≠ It ∧ En ≠ It) :
    ∃ (m : Str → Option Value) (oE oI : Obj), GE It k oE ∧ GI x t k oI ∧ Frm C (gF (gEnv L a cd) A' s [L, En, It] [(En, oE), (It, oI)]) { m := m, cm := fun zz => none, hid := fun b => b ∈ [L, En, It] } [("escape", .val (.bool esc)), ("pos", .val (.int p))] s := by
  obtain ⟨m, h1, h2, tk, h3⟩ := h.ns
  obtain ⟨oL, oE, oI, q1, q2, q3, q4, q5, q6, q7⟩ := h.three
  have key : ∀ q ∈ ([("escape", .val (.bool esc)), ("pos", .val (.int p))] : Store), ∃ d v, q.2 = .val d ∧ m q.1 = some v ∧ (gEnv L a cd).kindOf q.1 = some .local ∧ Imm d ∧ Rp (fun zz => False) s.heap v d := all2 ⟨_, _, rfl, h2, rfl, trivial, .bool _⟩ ⟨_, _, rfl, h3, rfl, trivial, .int _ _⟩
  exact ⟨m, oE, oI, q5, q7, gen_frm ok h.gd rm h1 (.head _) (fun b hb => ⟨hg b hb, (h.priv b hb).imp fun zz e => e.1⟩) (fun y sl e => key (y, sl) (lookup_mem e)) (all2 ⟨q4, .tail _ (.head _), fun z => hd.1 z.symm, q5.no, q5.elim fun zz z => off_cls h.gd h0 q4 (congrArg Obj.cls z)⟩ ⟨q6, .tail _ (.tail _ (.head _)), fun z => hd.2.1 z.symm, q7.no, off_cls h.gd h0 q6 q7.1⟩) (by simp [hd.2.2])⟩
/-- out of a frame that was made anew -/
theorem GS.of_frm {s s' : Shared} {W : Wt} {oE oI : Obj} {k : Nat} {esc : Bool} {p : Int} {A' : Around} (f : Frm C (gF (gEnv L a cd) A' s [L, En, It] [(En, oE), (It, oI)]) W [("escape", .val (.bool esc)), ("pos", .val (.int p))] s')
    (hE : GE It k oE) (hI : GI x t k oI) : GS C L En It x t k esc p s' := by
  obtain ⟨v1, h1, r1⟩ := f.vals "escape" _ rfl
  obtain ⟨v2, h2, r2⟩ := f.vals "pos" _ rfl
  rw [Wt.get_of_local (show (gF (gEnv L a cd) A' s [L, En, It] [(En, oE), (It, oI)]).env.kindOf (Str.ofString "escape") = some .local from rfl)] at h1
  rw [Wt.get_of_local (show (gF (gEnv L a cd) A' s [L, En, It] [(En, oE), (It, oI)]).env.kindOf (Str.ofString "pos") = some .local from rfl)] at h2
  cases r1.bool_inv
  obtain ⟨tk, rfl⟩ := r2.int_inv
  exact ⟨f.gd, ⟨W.m, f.ns, h1, tk, h2⟩, hE.elim fun old e => ⟨old, (f.pins (En, oE) (.head _)).1.trans (congrArg some e)⟩, ⟨oI, (f.pins (It, oI) (.tail _ (.head _))).1, hI⟩⟩

theorem gd_but {s : Shared} {h' : Heap} {tk : Nat} {S : List Addr} (g : Gd C s) (hS : ∀ b ∈ S, C.off b ∧ C.gh.get? b = none ∧ ∃ o, s.heap.get? b = some o ∧ NoCode o) (hs : ∀ b o, b ∉ S → s.heap.get? b = some o → h'.get? b = some o) : Gd C { s with heap := h', toks := tk } := by
  have tb : ∀ t : Tb, (∀ b ∈ S, b ≠ t.P) → TbOk t s.heap → TbOk t h' := fun t hn h => by
    obtain ⟨ps, e1, ht, r⟩ := h
    refine ⟨ps, hs _ _ (fun q => hn _ q rfl) e1, ht, r.imp id fun q => q.imp fun c' q => ⟨q.1, ?_⟩⟩
    obtain ⟨c, o, vs, t', e2, e3, e4, e5⟩ := q.2
    refine ⟨c, o, vs, t', e2, hs _ _ (fun q => ?_) e3, e4, e5⟩
    obtain ⟨_, _, o', e', hc⟩ := hS _ q
    rw [e3] at e'
    exact hc _ (Option.some.inj e' ▸ e4) _ _ e5
  exact ⟨fun b o q => hs b o (fun z => by rw [(hS b z).2.1] at q; cases q) (g.keep b o q), tb _ (fun b hb => (hS b hb).1.1) g.ta, tb _ (fun b hb => (hS b hb).1.2.1) g.tb, g.os, g.bare, fun p hp => ⟨hs _ _ (fun q => (hS _ q).1.2.2 p hp rfl) (g.hx p hp).1, (g.hx p hp).2⟩⟩

/-- a tuple is told, and what is done behind it -/
theorem gen_yield {c : Code} {fs : List PySem.Frame} {K : Flow → Sem PySem.Fin} {H : Value → Sem PySem.Fin} {items : List D} {N k : Nat} {e : Bool} {p : Int} {s₀ s s₄ : Shared} {W : Wt} {ρ : Store} {oE oI : Obj} {es : List Expr} {kk : Nat} {tp yp sp : Pos} {ds : List D}
    (hfs : splitAtGen fs = none) (hfg : fs.any Frame.guarded = false)
    (f : Frm C (gF (gEnv L a cd) (A.over c fs) s [L, En, It] [(En, oE), (It, oI)]) W ρ s₄) (hρ : Sub [("escape", .val (.bool e)), ("pos", .val (.int p))] ρ) 
    (hE : GE It k oE) (hI : GI x t k oI)
    (hev : Evs C (gF (gEnv L a cd) (A.over c fs) s [L, En, It] [(En, oE), (It, oI)]) ρ tp es ds) (hz : ds.length ≤ sizeLine) (himm : ∀ d ∈ ds, Imm d) (st : Stp C [L, En, It] s₀ s) (hi : items[items.length - 1 - N]? = some (.tup ds))
    (cont : ∀ s'', GS C L En It x t k e p s'' → Seg (model C.prog C.w) A (GR C [L, En, It]) (GY C [L, En, It] items) N s'' c (K .next) fs s'') :
    Seg (model C.prog C.w) A (GR C [L, En, It]) (GY C [L, En, It] items) (N + 1) s₀ c ((exec (.Expr (.Yield (some (.Tuple es kk tp)) yp) sp) (gEnv L a cd)).wrap K H id id) fs s₄ := by
  refine seg_Expr_Yield hfs rfl hfg (tup_new hev f hz fun vs s₅ x₅ r₅ => ?_)
  intro kap hkap
  have x₆ : Ex C s₅ { s₅ with heap := s₅.heap.push { cls := .type "tuple", data := .seq vs.toArray 0 } } := Ex.push (tk := s₅.toks) x₅.gd _
  have f₆ := (f.ex x₅).ex x₆
  have gs := GS.of_frm (f₆.sub hρ) hE hI
  have stp : Stp C [L, En, It] s₀ { s₅ with heap := s₅.heap.push { cls := .type "tuple", data := .seq vs.toArray 0 } } := st.trans (gen_stp f₆)
  have st5 : Stp C [L, En, It] s₀ s₅ := st.trans (gen_stp (f.ex x₅))
  have np : s₅.heap.objs.size ∉ [L, En, It] := fun q => by
    have f₅ := f.ex x₅
    exact (all3 (P := fun b => ∃ o, s₅.heap.get? b = some o) (ns_at f₅.ns) ⟨_, (f₅.pins (En, oE) (.head _)).1⟩ ⟨_, (f₅.pins (It, oI) (.tail _ (.head _))).1⟩ _ q).elim fun zz e => no_at e get_size rfl
  refine ⟨stp, ⟨ds, s₅.heap.objs.size, _, vs, hi, rfl, ?_, np, Heap.get?_push_size _ rfl, ⟨rfl, rfl, ⟨0, rfl⟩, rfl⟩, fun hid h => ?_⟩, gs.priv, fun s'' g'' same => hkap _ _ (cont s'' (gs.same g'' same))⟩
  · cases q : s₀.heap.get? s₅.heap.objs.size with
    | none => rfl
    | some o =>
      rcases off_or x₅.gd s₅.heap.objs.size with h | ⟨o', h⟩
      · exact no_at (st5.keep _ o h np q) get_size rfl
      · exact no_at h get_size rfl
  · exact r₅.imm himm

set_option maxHeartbeats 1000000 in
theorem gen_loop (pr : Pr C) (h0 : C.hd = none) (hg : ∀ b ∈ [L, En, It], C.gh.get? b = none) (hd : L ≠ En ∧ L ≠ It ∧ En ≠ It) {items : List D} {fs : List PySem.Frame} (hfs : splitAtGen fs = none) (hfg : fs.any Frame.guarded = false)
    (rm : Rm C (A.over (.forLoop gTgt (.ref En) gBody [] (gEnv L a cd)) fs) 3) (hx : x.cps.size ≤ 1000000)
    (hend : ∀ (s₀ s : Shared) (p : Int), Gd C s → Stp C [L, En, It] s₀ s → (∃ m, s.heap.Ns L m ∧ m "escape" = some (.bool false) ∧ ∃ tk, m "pos" = some (.int p tk)) →
      Seg (model C.prog C.w) A (GR C [L, En, It]) (GY C [L, En, It] items) 0 s₀ (.block [] (gEnv L a cd)) (.pure (.done .next)) fs s) :
    ∀ (rest : List Nat) (k : Nat) (esc : Bool) (p : Int) (s₀ s : Shared), x.cps.toList.drop k = rest → k ≤ x.cps.size → (∃ pre, items = pre ++ (escF k esc rest).map escD) → escEnd esc rest = false → GS C L En It x t k esc p s → Stp C [L, En, It] s₀ s →
      Seg (model C.prog C.w) A (GR C [L, En, It]) (GY C [L, En, It] items) (escF k esc rest).length s₀ (.forLoop gTgt (.ref En) gBody [] (gEnv L a cd)) ((model C.prog C.w).den (.forLoop gTgt (.ref En) gBody [] (gEnv L a cd))) fs s := by
  intro rest
  induction rest with
  | nil =>
    intro k esc p s₀ s hr hk hpre he hs st
    have hks : k = x.cps.size := by
      have := List.drop_eq_nil_iff.mp hr
      simp at this; (clear hd hfg hx he; lia)
    subst hks
    obtain ⟨old, hE⟩ := hs.en
    refine seg_forLoop (wpAny_pyNext_enum_endD (str_draws (show (A.over (.forLoop gTgt (.ref En) gBody [] (gEnv L a cd)) fs).in1.handled = none from rm.h0 h0) It x t) hE hs.it fun h' hx' => ?_)
    obtain ⟨oI, i1, i2, i3⟩ := hs.it
    have nc : NoCode oI := fun vs q => by rw [i3] at q; cases q; intro q t z; cases z
    have g' : Gd C { s with heap := h' } := Gd.same (tk := s.toks) hs.gd (off_cls hs.gd h0 i1 i2) i1 nc (hg It (by simp)) fun b o nb e => hx' b o nb e
    have he : esc = false := he
    subst he
    refine hend s₀ _ p g' ⟨g', fun b o ho nb e => hx' b o (fun z => nb (by simp [z])) (st.keep b o ho nb e), st.gens⟩ ?_
    obtain ⟨m, ⟨o, es, ep, h1, h2⟩, h3⟩ := hs.ns
    exact ⟨m, ⟨o, es, ep, hx' L o hd.2.1 h1, h2⟩, h3⟩
  | cons c rest ih =>
    intro k esc p s₀ s hr hk hpre he hs st
    have hlt : k < x.cps.size := by
      apply Nat.lt_of_not_le
      intro q
      rw [List.drop_eq_nil_of_le (by simpa using q)] at hr
      cases hr
    have hlt' : k < x.cps.toList.length := by simpa using hlt
    rw [List.drop_eq_getElem_cons hlt'] at hr
    obtain ⟨hc, hr'⟩ := List.cons.inj hr
    have hc' : x.cps[k]? = some c := by rw [← hc]; simp [hlt]
    obtain ⟨old, hE⟩ := hs.en
    obtain ⟨oI0, i1, i2, i3⟩ := hs.it
    have hpr := hs.priv
    have offE : C.off En := off_cls hs.gd h0 hE rfl
    have offI : C.off It := off_cls hs.gd h0 i1 i2
    refine seg_forLoop (wpAny_pyNext_enum_itemD (str_draws (show (A.over (.forLoop gTgt (.ref En) gBody [] (gEnv L a cd)) fs).in1.handled = none from rm.h0 h0) It x t) hE hs.it hlt hd.2.2 (by simpa using hd.2.2) fun xv h₁ tk hP hOut hI₁ hT hsz hk₁ => ?_)
    obtain ⟨c', u, e1, rfl⟩ := hP
    rw [hc'] at e1
    cases e1
    refine wpAny_letOwnedTupleGo_enum hOut fun h₂ hE₂ hs₂ => ?_
    have nT : s.heap.objs.size ∉ [L, En, It] := fun q => by
      obtain ⟨o, eo, _⟩ := hpr _ q
      exact no_at eo get_size rfl
    have hT₂ : h₂.get? s.heap.objs.size = some ({ cls := .type "tuple", data := .seq #[.int (k : Int) tk, .str ⟨#[c]⟩ u] } : Obj) := (hs₂.2 _ (fun q => nT (by simp [q]))).trans hT
    have hI₂ : h₂.IsStrIter It (strIterType x) x t (k + 1) := hI₁.extBut hs₂.extBut (fun q => hd.2.2 q.symm)
    have keep₂ : ∀ b o, b ∉ [En, It] → s.heap.get? b = some o → h₂.get? b = some o := fun b o nb e => (hs₂.2 b (fun q => nb (by simp [q]))).trans (hk₁ b o (fun q => nb (by simp [q])) (fun q => nb (by simp [q])) e)
    have g₂ : Gd C { s with heap := h₂, toks := tk + 1 } := gd_but hs.gd (S := [En, It]) (fun b hb => by
      obtain ⟨o, eo, hn⟩ := hpr b (List.mem_cons_of_mem _ hb)
      refine ⟨?_, hg b (List.mem_cons_of_mem _ hb), o, eo, hn⟩
      exact all2 (P := fun b => C.off b) offE offI b hb) keep₂
    have gs₂ : GS C L En It x t (k + 1) esc p { s with heap := h₂, toks := tk + 1 } := by
      obtain ⟨m, ⟨o, es, ep, q1, q2⟩, q3⟩ := hs.ns
      exact ⟨g₂, ⟨m, ⟨o, es, ep, keep₂ L o (by simp [hd.1, hd.2.1]) q1, q2⟩, q3⟩, ⟨_, by exact_mod_cast hE₂⟩, hI₂⟩
    have st₂ : Stp C [L, En, It] s₀ { s with heap := h₂, toks := tk + 1 } := st.trans ⟨g₂, fun b o ho nb e => keep₂ b o (fun q => nb (List.mem_cons_of_mem _ q)) e, fun i z e => e⟩
    have rT : Rp (fun b => b ∈ [L, En, It]) ({ s with heap := h₂, toks := tk + 1 } : Shared).heap (.ref s.heap.objs.size) (.tup [.int (k : Int), .str ⟨#[c]⟩]) := .tup nT hT₂ ⟨rfl, rfl, ⟨0, rfl⟩, rfl⟩ (.cons (.int _ _) (.cons (.str _ _) .nil))
    generalize ({ s with heap := h₂, toks := tk + 1 } : Shared) = s₂ at gs₂ st₂ rT ⊢
    obtain ⟨m, oE, oI, hoE, hoI, f₂⟩ := gs₂.frm (a := a) (cd := cd) pr.ok h0 rm hg hd
    have as : As C (gF (gEnv L a cd) (A.over (.forLoop gTgt (.ref En) gBody [] (gEnv L a cd)) fs) s₂ [L, En, It] [(En, oE), (It, oI)]) gTgt (.tup [.int (k : Int), .str ⟨#[c]⟩]) [("escape", .val (.bool esc)), ("pos", .val (.int p))] (("ch", .val (.str ⟨#[c]⟩)) :: ("pos", .val (.int (k : Int))) :: [("escape", .val (.bool esc)), ("pos", .val (.int p))]) :=
      as_tuple (.cons (as_name rfl) (.cons (as_name rfl) .nil rfl) rfl)
    refine as.go _ _ _ _ _ f₂ rT fun W₃ s₃ f₃ hkeep => ?_
    obtain ⟨pre, hpre⟩ := hpre
    have idx : ∀ (d : D) (r : List D), items = pre ++ d :: r → items[items.length - 1 - r.length]? = some d := fun d r e => by
      rw [e, List.length_append, List.length_cons, show pre.length + (r.length + 1) - 1 - r.length = pre.length by (clear hd hfg hx hk he hlt hc hsz nT hoI; lia), List.getElem?_append_right (Nat.le_refl _), Nat.sub_self]; rfl
    have esc1 : (Str.ofString "\\" ++ (⟨#[c]⟩ : Str)) = ⟨[92, c].toArray⟩ := rfl
    have hsl : (1000000 : Nat) ≤ sizeLine := by decide
    -- the rest of a turn, where the def sets its mark
    have last : ∀ (b : Bool) (s₀' s₅ : Shared) (W₅ : Wt) (ρ₅ : Store) (oE' oI' : Obj) (sb : Shared), Frm C (gF (gEnv L a cd) (A.over (.forLoop gTgt (.ref En) gBody [] (gEnv L a cd)) fs) sb [L, En, It] [(En, oE'), (It, oI')]) W₅ ρ₅ s₅ → Sub [("escape", .val (.bool b)), ("pos", .val (.int (k : Int)))] ρ₅ →
        GE It (k + 1) oE' → GI x t (k + 1) oI' → Stp C [L, En, It] s₀' sb →
        (∃ pre, items = pre ++ (escF (k + 1) b rest).map escD) → escEnd b rest = false →
        Seg (model C.prog C.w) A (GR C [L, En, It]) (GY C [L, En, It] items) (escF (k + 1) b rest).length s₀' (.forLoop gTgt (.ref En) gBody [] (gEnv L a cd)) (.pure (.again (.forLoop gTgt (.ref En) gBody [] (gEnv L a cd)))) fs s₅ :=
      fun b s₀' s₅ W₅ ρ₅ oE' oI' sb f₅ hρ hE' hI' st' hp he' => seg_again (by first | rfl | decide) (ih (k + 1) b k s₀' s₅ hr' hlt hp he' (GS.of_frm (f₅.sub hρ) hE' hI') (st'.trans (gen_stp f₅)))
    refine seg_execs_cons (seg_If ((ts_val (vl (d := .bool esc)) rfl trivial : Ts C (gF (gEnv L a cd) (A.over (.forLoop gTgt (.ref En) gBody [] (gEnv L a cd)) fs) s₂ [L, En, It] [(En, oE), (It, oI)]) _ _ esc).go W₃ s₃ _ _ f₃ fun s₄ x₄ => ?_))
    have f₄ := f₃.ex x₄
    cases esc with
    | true =>
      rw [if_pos rfl]
      have hp1 : items = pre ++ escD (k, [92, c]) :: (escF (k + 1) false rest).map escD := hpre
      have hi := idx _ _ hp1
      rw [List.length_map] at hi
      refine seg_execs_cons (gen_yield (N := (escF (k + 1) false rest).length) (k := k + 1) (e := true) (p := k) hfs hfg f₄ ⟨rfl, rfl, trivial⟩ hoE hoI (evs_cons (vl (d := .int (k : Int))) (evs_cons (Ev.cast (by rw [esc1]) (ev_bin (ev_str (x := Str.ofString "\\")) (vl (d := .str ⟨#[c]⟩)) (bin_sadd (by show 1 + 1 ≤ _; (clear hd hfg hx hk hlt hc hsz nT hoI he; lia))) kle)) evs_nil)) (by show 2 ≤ _; (clear hd hfg hx hk hlt hc hsz nT hoI he; lia)) (by exact all2 trivial trivial) st₂ hi fun s'' g'' => ?_)
      · obtain ⟨m', oE', oI', qE, qI, f''⟩ := g''.frm (a := a) (cd := cd) pr.ok h0 rm hg hd
        refine seg_execs_cons (seg_stmt (wpAny_mono ((w1_assign (K := fun fl ρ' => fl = .next ∧ Sub [("escape", .val (.bool false)), ("pos", .val (.int (k : Int)))] ρ') ev_bool ⟨rfl, rfl, rfl, trivial⟩ rfl).go _ s'' f'') (fun fl s₇ hE7 => hE7.next fun W₇ ρ₇ hfl f₇ hρ₇ => ?_) fun zz zz x => x))
        rw [hfl]
        exact last false s'' s₇ W₇ _ oE' oI' s'' f₇ hρ₇ qE qI (Stp.refl g''.gd) ⟨pre ++ [escD (k, [92, c])], by rw [hp1, List.append_assoc]; rfl⟩ he
    | false =>
      rw [if_neg Bool.false_ne_true]
      refine seg_execs_cons (seg_If ((ts_cmp (vl (d := .str ⟨#[c]⟩)) (ev_str (x := Str.ofString "\\")) cmp_seq kle : Ts C (gF (gEnv L a cd) (A.over (.forLoop gTgt (.ref En) gBody [] (gEnv L a cd)) fs) s₂ [L, En, It] [(En, oE), (It, oI)]) _ _ _).go W₃ s₄ _ _ f₄ fun s₅ x₅ => ?_))
      have f₅ := f₄.ex x₅
      by_cases h92 : c = 92
      · have e2 : escF k false (c :: rest) = escF (k + 1) true rest := if_pos h92
        have e3 : escEnd false (c :: rest) = escEnd true rest := by show escEnd (decide (c = 92)) rest = _; rw [decide_eq_true h92]
        rw [e2] at hpre ⊢
        rw [e3] at he
        rw [if_pos (by rw [h92]; rfl)]
        refine seg_execs_cons (seg_stmt (wpAny_mono ((w1_assign (K := fun fl ρ' => fl = .next ∧ Sub [("escape", .val (.bool true)), ("pos", .val (.int (k : Int)))] ρ') ev_bool ⟨rfl, rfl, rfl, trivial⟩ rfl).go _ s₅ f₅) (fun fl s₇ hE7 => hE7.next fun W₇ ρ₇ hfl f₇ hρ₇ => ?_) fun zz zz x => x))
        rw [hfl]
        exact last true s₀ s₇ W₇ _ oE oI _ f₇ hρ₇ hoE hoI st₂ ⟨pre, hpre⟩ he
      · have e2 : escF k false (c :: rest) = (k, [c]) :: escF (k + 1) false rest := if_neg h92
        have e3 : escEnd false (c :: rest) = escEnd false rest := by show escEnd (decide (c = 92)) rest = _; rw [decide_eq_false h92]
        rw [e2] at hpre ⊢
        rw [e3] at he
        have hb : ((⟨#[c]⟩ : Str) == Str.ofString "\\") = false := by
          rw [beq_eq_false_iff_ne]
          intro q
          have q2 : (#[c] : Array Nat) = #[92] := congrArg Str.cps q
          exact h92 (by simpa using q2)
        rw [if_neg (by rw [hb]; exact Bool.false_ne_true)]
        have hp1 : items = pre ++ escD (k, [c]) :: (escF (k + 1) false rest).map escD := hpre
        have hi := idx _ _ hp1
        rw [List.length_map] at hi
        refine seg_execs_cons (gen_yield (N := (escF (k + 1) false rest).length) (k := k + 1) (e := false) (p := k) hfs hfg f₅ ⟨rfl, rfl, trivial⟩ hoE hoI (evs_cons (vl (d := .int (k : Int))) (evs_cons (vl (d := .str ⟨#[c]⟩)) evs_nil)) (by show 2 ≤ _; (clear hd hfg hx hk hlt hc hsz nT hoI he h92 e3 hb; lia)) (by exact all2 trivial trivial) st₂ hi fun s'' g'' => ?_)
        · obtain ⟨m', oE', oI', qE, qI, f''⟩ := g''.frm (a := a) (cd := cd) pr.ok h0 rm hg hd
          exact last false s'' s'' _ _ oE' oI' s'' f'' ⟨rfl, rfl, trivial⟩ qE qI (Stp.refl g''.gd) ⟨pre ++ [escD (k, [c])], by rw [hp1, List.append_assoc]; rfl⟩ he
end
end Mine
/-! S15 -/
namespace Mine
open PySem PySem.W PySem.Spec PySem.Calls PyProof.Rows PySem.SeqAt

theorem enum_free {C : Cx} (pr : Pr C) : C.mg (Str.ofString "enumerate") = none := pr.no _ (by rw [show bootBuiltins (Str.ofString "enumerate") = some (.type "enumerate") by with_unfolding_all rfl]; exact nofun) (by decide)
section
variable {C : Cx} {L a : Addr} {cd : Value} {A : Around} {x : Str}
theorem gen_one {A' : Around} {s : Shared} {m : Str → Option Value} {y : Str} {v : Value} {d : D} (ok : C.Ok) (g : Gd C s) (rm : Rm C A' 3) (hns : s.heap.Ns L m) (hgL : C.gh.get? L = none) (hm : m y = some v) (hk : (gEnv L a cd).kindOf y = some .local) (hi : Imm d) (r : Rp (fun zz => False) s.heap v d) :
    Frm C (gF (gEnv L a cd) A' s [L] []) { m := m, cm := fun zz => none, hid := fun b => b ∈ [L] } [(y, .val d)] s :=
  gen_frm ok g rm hns (.head _) (all1 ⟨hgL, ns_at hns⟩) (fun z sl e => all1 (P := fun p : Str × Sl => ∃ d v, p.2 = .val d ∧ m p.1 = some v ∧ (gEnv L a cd).kindOf p.1 = some .local ∧ Imm d ∧ Rp (fun zz => False) s.heap v d) ⟨d, v, rfl, hm, hk, hi, r⟩ (z, sl) (lookup_mem e)) allN .nil
/-- where the def starts -/
theorem gen_start (pr : Pr C) (h0 : C.hd = none) {s : Shared} {m : Str → Option Value} {t : Tok} (rm : Rm C A 8) (g : Gd C s) (hns : s.heap.Ns L m) (hm : m "addr" = some (.str x t)) (hgL : C.gh.get? L = none) (hx : x.cps.size ≤ 1000000) (hesc : escEnd false x.cps.toList = false) :
    Seg (model C.prog C.w) A (GR C [L, s.heap.objs.size + 1, s.heap.objs.size]) (GY C [L, s.heap.objs.size + 1, s.heap.objs.size] ((escF 0 false x.cps.toList).map escD)) (escF 0 false x.cps.toList).length s (.func R_gen.body (gEnv L a cd)) ((model C.prog C.w).den (.func R_gen.body (gEnv L a cd))) [] s := by
  have hL : L < s.heap.objs.size := (ns_at hns).elim fun zz e => Heap.lt_size e
  have hgn : ∀ b, s.heap.objs.size ≤ b → C.gh.get? b = none := fun b hb => by
    cases q : C.gh.get? b with
    | none => rfl
    | some o => exact absurd (Heap.lt_size (g.keep _ _ q)) (Nat.not_lt.mpr hb)
  have rmf : Rm C (A.over (.func R_gen.body (gEnv L a cd)) []) 3 := ⟨rm.1, by have := rm.2.1; show A.depth + 0 + 1 + 3 < 1000; (clear hx hesc hL; lia), by have := rm.2.2; show A.units + 0 + 3 + 20 * 3 < 9800; (clear hx hesc hL; lia)⟩
  have f0 : Frm C (gF (gEnv L a cd) (A.over (.func R_gen.body (gEnv L a cd)) []) s [L] []) { m := m, cm := fun zz => none, hid := fun b => b ∈ [L] } [("addr", .val (.str x))] s :=
    gen_one pr.ok g rmf hns hgL hm rfl trivial (.str _ _)
  refine seg_func ?_
  refine seg_execs_cons (seg_stmt (assign_raw f0 (fun Q E q => wpAny_Constant_int (q _ _ (.int 0 _))) rfl rfl fun W₁ s₁ z₁ hh₁ gg₁ k₁ f₁ => ?_))
  refine seg_execs_cons (seg_stmt (assign_raw f₁ (fun Q E q => wpAny_Constant_bool (q _ s₁.toks (.bool false))) rfl rfl fun W₂ s₂ z₂ hh₂ gg₂ k₂ f₂ => ?_))
  refine seg_execs_cons (seg_For (fun zz => rfl) ?_)
  have zz : s₂.heap.objs.size = s.heap.objs.size := z₂.trans z₁
  refine wpAny_Call_NameR (builtin_any f₂ rfl (enum_free pr) (v := .type "enumerate") (by with_unfolding_all rfl) ?_)
  obtain ⟨v, ev, rv⟩ := f₂.vals "addr" _ rfl
  obtain ⟨t', rfl⟩ := rv.str_inv
  rw [Wt.get_of_local (show (gF (gEnv L a cd) (A.over (.func R_gen.body (gEnv L a cd)) []) s [L] []).env.kindOf (Str.ofString "addr") = some .local from rfl)] at ev
  refine PySem.callWith_type1 (wpAny_Name (wpAny_loadName_local f₂.kind rfl f₂.ns ev ?_))
  refine call_enumerate_str fun h' hE hI hz hk => ?_
  refine wpAny_pyIter_enum hE fun p => ?_
  rw [zz] at hE hI hz ⊢
  have keep : ∀ b o, b ≠ L → s.heap.get? b = some o → h'.get? b = some o := fun b o nb e => hk b o (k₂ b o nb (k₁ b o nb e))
  have gens' : s₂.gens = s.gens := gg₂.trans gg₁
  have g' : Gd C { s₂ with heap := h' } := (Ex.of_keeps (tk := s₂.toks) f₂.gd hk).gd
  have st : Stp C [L, s.heap.objs.size + 1, s.heap.objs.size] s { s₂ with heap := h' } := ⟨g', fun b o ho nb e => keep b o (fun z => nb (by simp [z])) e, fun i y e => by show s₂.gens[i]? = some y; rw [gens']; exact e⟩
  refine gen_loop (t := t') pr h0 (all3 hgL (hgn _ (Nat.le_succ _)) (hgn _ (Nat.le_refl _))) ⟨Nat.ne_of_lt (Nat.lt_succ_of_lt hL), Nat.ne_of_lt hL, Nat.succ_ne_self _⟩ rfl rfl ?_ hx ?_ x.cps.toList 0 false 0 s _ rfl (Nat.zero_le _) ⟨[], rfl⟩ hesc ?_ st
  · exact ⟨rm.1, by have := rm.2.1; show A.depth + (1 + 0) + 0 + 3 < 1000; (clear hx hesc hL z₁ z₂ zz hz; lia), by have := rm.2.2; show A.units + (3 + 0) + 0 + 20 * 3 < 9800; (clear hx hesc hL z₁ z₂ zz hz; lia)⟩
  · intro s₀ s₃ p' g₃ st₃ hmm
    obtain ⟨m', hn', he', tk, hp'⟩ := hmm
    refine seg_leaf (.ok .next) ?_
    have f₃ : Frm C (gF (gEnv L a cd) (A.over (.func R_gen.body (gEnv L a cd)) []) s₃ [L] []) { m := m', cm := fun zz => none, hid := fun b => b ∈ [L] } [("escape", .val (.bool false))] s₃ :=
      gen_one pr.ok g₃ rmf hn' hgL he' rfl trivial (.bool _)
    refine seg_execs_cons (seg_If ((ts_val (vl (d := .bool false)) rfl trivial : Ts C (gF (gEnv L a cd) (A.over (.func R_gen.body (gEnv L a cd)) []) s₃ [L] []) _ _ false).go _ s₃ _ _ f₃ fun s₄ x₄ => ?_))
    rw [if_neg Bool.false_ne_true]
    exact seg_end (.ok (.ret .none)) ⟨rfl, rfl, st₃.trans (Stp.of_ex x₄)⟩
  · refine ⟨g', ⟨W₂.m, ?_, ?_, ?_⟩, ⟨.none, hE⟩, hI⟩
    · obtain ⟨o, es, ep, q1, q2⟩ := f₂.ns
      exact ⟨o, es, ep, hk _ _ q1, q2⟩
    · obtain ⟨v1, q1, r1⟩ := f₂.vals "escape" _ rfl
      rw [Wt.get_of_local (show (gF (gEnv L a cd) (A.over (.func R_gen.body (gEnv L a cd)) []) s [L] []).env.kindOf (Str.ofString "escape") = some .local from rfl)] at q1
      cases r1.bool_inv
      exact q1
    · obtain ⟨v1, q1, r1⟩ := f₂.vals "pos" _ rfl
      rw [Wt.get_of_local (show (gF (gEnv L a cd) (A.over (.func R_gen.body (gEnv L a cd)) []) s [L] []).env.kindOf (Str.ofString "pos") = some .local from rfl)] at q1
      obtain ⟨tk, rfl⟩ := r1.int_inv
      exact ⟨tk, q1⟩
end
end Mine
/-! S16 -/
namespace Mine
open PySem PySem.W PySem.Spec PySem.Calls PyProof.Rows PySem.SeqAt

section
variable {C : Cx} {A : Around} {E : Value → Shared → Prop} {s : Shared}
theorem gen_next {G g n : Nat} {gs : GenState} {priv : List Addr} {items : List D} {Q : Option Value → Shared → Prop} (hh : A.handled = none) (hl : s.heap.NoLimit) (hroom : A.depth < recursionLimit)
    (hg : s.heap.IsGen G g) (hgs : s.gens[g]? = some gs) (hgo : gs.Goes (model C.prog C.w) A.in1 (GR C priv) (GY C priv items) n (.send .none) (s.setGen g .running))
    (hY : ∀ m v s₁ gs', n = m + 1 → gs'.bare = true → GY C priv items m (s.setGen g .running) v s₁ (fun r' s'' => gs'.Goes (model C.prog C.w) A.in1 (GR C priv) (GY C priv items) m r' s'') → Q (some v) (s₁.setGen g gs'))
    (hP : n = 0 → ∀ s₁, Stp C priv (s.setGen g .running) s₁ → ∀ h', (∀ b o, s₁.heap.get? b = some o → h'.get? b = some o) → Q none { s₁.setGen g .finished with heap := h' }) :
    wpAny (model C.prog C.w) A (pyNext (.ref G)) Q E s := by
  unfold pyNext
  refine wpAny_bind (wpAny_attempt (wpAny_callSpecial?_slot (name := Str.ofString "__next__") hg.typeIs slot_gen_next
    (wpAny_call_entry slot_gen_next hg.typeIs entry_gen_next ?_ (args_gen_next _))))
  show wpAny _ A.in1 (Builtin.Generator.genWake (.ref G) (.send .none)) _ _ s
  unfold Builtin.Generator.genWake
  refine wpAny_bind (wpAny_holding (wpAny_genNumber hg (wpAny_bind (wpAny_genState hgs ?_))))
  cases gs with
  | running => exact hgo.elim
  | finished => exact hgo.elim
  | _ =>
    refine wpAny_bind (wpAny_roomToWake hl hroom ?_)
    show wpAny _ A.in1 (.resume g (.send .none) [] _) _ _ s
    refine wpAny_resumeQ hgs hgo (fun x s₁ hx => ?_) (fun v s₁ gs' hb hv => ?_)
    · obtain ⟨rfl, hn, hp⟩ := hx
      show wpAny _ A.in1 (newExc (.type "StopIteration") [] >>= _) _ _ _
      refine wpAny_bind ?_
      simp only [newExc, newTuple]
      refine wpAny_bind (wpAny_newObj_type ?_ (by size_fits))
      refine wpAny_bind (m := firstArgMember _ _) (wpAny_of_eq (a := Value.none) (by first | rfl | (simp only [firstArgMember]; rfl)) ?_)
      refine wpAny_newObj_type ?_ (by size_fits)
      simp only [raiseNew]
      refine wpAny_bind (wpAny_bind (wpAny_handled ?_))
      first | rw [show A.in1.handled = none from hh] | rw [hh]
      refine wpAny_throw ?_
      refine wpAny_bind (wpAny_isInstance (T := "StopIteration") (b := true) ⟨_, Heap.get?_push_size _ rfl, rfl⟩ isSubtype_stop ?_)
      exact wpAny_pure (hP hn s₁ hp _ fun b o hb => Heap.get?_push_of_some _ (Heap.get?_push_of_some _ hb))
    · refine wpAny_pure ⟨v, rfl, wpAny_pure ?_⟩
      cases n with
      | zero => exact (hv.2.2.2 s₁ hv.1.gd (fun zz zz => rfl)).elim
      | succ m => exact hY m v s₁ gs' rfl hb hv

theorem letgo_gen {G g : Nat} {tg : Expr} {v : Value} {Q : Unit → Shared → Prop} (hg : s.heap.IsGen G g) (q : Q () s) : wpAny (model C.prog C.w) A (letOwnedTupleGo tg (.ref G) v) Q E s := by
  obtain ⟨o, nm, qn, e1, e2, e3, e4⟩ := hg
  exact go_of e1 e2 (by decide +kernel) q
end
end Mine
/-! S17 -/
namespace Mine
open PySem PySem.W PySem.Spec PySem.Calls PyProof.Rows PySem.SeqAt

section
variable {C : Cx} {F : Fx} {ρ ρ₀ : Store} {K : Fl → Store → Prop}
/-- what was pinned is let go, moved or not -/
theorem Frm.shed {W W₀ : Wt} {s s' s₀ : Shared} {ps : List (Addr × Obj)} {priv : List Addr} {sc' : Heap} {gens' : Array GenState} (f₀ : Frm C F W₀ ρ₀ s₀) (hsub : ∀ b o, C.off b → F.sc.get? b = some o → sc'.get? b = some o) (f : Frm C { F with pins := ps, sc := sc', gens := gens' } W ρ s) (hp : F.pins = []) (hseen : F.seen = []) (hloc : F.env.cells = [])
    (g' : Gd C s') (hs : ∀ b o, C.off b → b ∉ priv → s.heap.get? b = some o → s'.heap.get? b = some o) (hpriv : ∀ b ∈ priv, b ∈ ps.map (·.1) ∨ s.heap.get? b = none) (hgen : ∀ (i : Nat) (x : GenState), F.gens[i]? = some x → s'.gens[i]? = some x) (hH : ∀ b, F.H b → b ∉ priv) :
    Frm C F { W with hid := fun b => W.hid b ∧ b ∉ priv } ρ s' := by
  have old : ∀ a ∈ ps.map (·.1), C.off a ∧ W.hid a ∧ a ≠ F.env.locals ∧ sc'.get? a = none ∧ ∃ o, s.heap.get? a = some o := fun a ha => by
    obtain ⟨p, hp, rfl⟩ := List.mem_map.mp ha
    obtain ⟨k1, k2, k3, k4, k5, k6⟩ := f.pins p hp
    exact ⟨k2, k3, k4, k5, _, k1⟩
  have offd : ∀ {b ob}, s.heap.get? b = some ob → (∀ vs, ob.data ≠ .fields vs) → C.off b := fun e h => f.gd.off e h
  have np : ∀ b o, s.heap.get? b = some o → ¬ W.hid b → b ∉ priv := fun b o e n q => by
    rcases hpriv b q with h | h
    · exact n (old b h).2.1
    · exact no_at e h rfl
  have rpk : ∀ {v d}, Rp W.hid s.heap v d → Rp (fun b => W.hid b ∧ b ∉ priv) s'.heap v d := fun r => r.mono fun b ob n e hcl => ⟨fun q => n q.1, hs b ob (f.gd.offq e hcl) (np b ob e n) e⟩
  have rpks : ∀ {v d}, Rps W.hid s.heap v d → Rps (fun b => W.hid b ∧ b ∉ priv) s'.heap v d := fun r => r.mono fun b ob n e hcl => ⟨fun q => n q.1, hs b ob (f.gd.offq e hcl) (np b ob e n) e⟩
  obtain ⟨oN, es, ep, eN, dN, rN⟩ := f.ns
  have hLn : F.env.locals ∉ priv := fun q => by
    rcases hpriv _ q with h | h
    · exact (old _ h).2.2.1 rfl
    · exact no_at eN h rfl
  exact {
    gd := g', ok := f.ok, rm := f.rm, kind := f.kind, glob := f.glob, blt := f.blt
    ns := ⟨oN, es, ep, hs _ _ (offd eN (fun zz q => by rw [dN] at q; cases q)) hLn eN, dN, rN⟩
    cells := fun y c e => by rw [hloc] at e; cases e
    cfree := fun zz y c e => by rw [hloc] at e; cases e
    cinj := fun y z c e => by rw [hloc] at e; cases e
    vals := fun y d e1 => (f.vals y d e1).imp fun zz q => ⟨q.1, rpk q.2⟩
    owns := fun y d e1 => by
      obtain ⟨v, e2, r⟩ := f.owns y d e1
      obtain ⟨b, vs, n, q1, q2, q3, q4, q5, q6, q7, q8⟩ := r
      have hb : b ∉ priv := fun q => by
        rcases hpriv _ q with h | h
        · obtain ⟨p, hp, hz⟩ := List.mem_map.mp h
          exact q8 p hp hz.symm
        · exact no_at q2 h rfl
      refine ⟨v, e2, ⟨b, vs, n, q1, hs _ _ (offd q2 (fun zz q => by cases q)) hb q2, rpks q3, ⟨q4, hb⟩, ?_, q6, q7, fun p hp2 => by rw [hp] at hp2; cases hp2⟩⟩
      cases q : F.sc.get? b with
      | none => rfl
      | some o => exact no_at (hsub b o (offd q2 (fun zz q => by cases q)) q) q5 rfl
    apart := f.apart
    sc := fun b o n e => by
      have e' := hsub b o n e
      refine hs b o n (fun q => ?_) (f.sc b o n e')
      rcases hpriv _ q with h | h
      · exact no_at e' (old b h).2.2.2.1 rfl
      · exact no_at (f.sc b o n e') h rfl
    scg := f₀.scg
    lloc := f₀.lloc
    pins := fun p hp2 => by rw [hp] at hp2; cases hp2
    pcell := fun p hp2 => by rw [hp] at hp2; cases hp2
    pinj := by rw [hp]; exact .nil
    seen := fun p hp2 => by rw [hseen] at hp2; cases hp2
    gens := hgen
    hL := ⟨f.hL, hLn⟩
    hH := fun b q => ⟨f.hH b q, hH b q⟩
    Hb := f₀.Hb
    bd := fun b q => by
      obtain ⟨ob, e⟩ := f.bd b q.1
      exact (off_or g' b).elim (fun h => ⟨ob, hs b ob h q.2 e⟩) id }
theorem Frm.regens {W : Wt} {s : Shared} (f : Frm C F W ρ s) : Frm C { F with gens := s.gens } W ρ s := { f with gens := fun i y e => e, owns := fun y d e => (f.owns y d e).imp fun zz q => ⟨q.1, q.2.to rfl rfl rfl⟩ }
theorem Gd.setGen {s : Shared} (g : Gd C s) {i : Nat} {x : GenState} (hx : x.bare = true) : Gd C (s.setGen i x) :=
  ⟨g.keep, g.ta, g.tb, g.os, fun y hy => by
    rcases Array.mem_or_eq_of_mem_setIfInBounds hy with h | h
    · exact g.bare y h
    · rw [h]; exact hx, g.hx⟩

/-- between two turns -/
inductive GTurn (C : Cx) (F : Fx) (I : List (Nat × List Nat) → Store → Prop) (sc' : Heap) (L It g : Nat) (xs : List D) (n : Nat) (s : Shared) : Prop
  | mk (W : Wt) (ρ' : Store) (r : List (Nat × List Nat)) (ps : List (Addr × Obj)) (gs : GenState) (hn : n = r.length) (fr : Frm C { F with pins := ps, sc := sc', gens := s.gens } W ρ' s) (hI : I r ρ') (hgs : s.gens[g]? = some gs)
      (hgo : gs.Goes (model C.prog C.w) F.A.in1 (GR C [L, It + 1, It]) (GY C [L, It + 1, It] xs) n (.send .none) (s.setGen g .running)) (hpre : ∃ pre, xs = pre ++ r.map escD)
      (hps : (ps.map (·.1) = [L] ∧ s.heap.get? (It + 1) = none ∧ s.heap.get? It = none) ∨ ps.map (·.1) = [L, It + 1, It]) (hgF : ∀ (i : Nat) (y : GenState), F.gens[i]? = some y → s.gens[i]? = some y)

theorem escD_tup (d : Nat × List Nat) : ∃ ds, escD d = .tup ds := ⟨_, rfl⟩
/-- what the generator told: the row's tuple, at an address of its own -/
theorem GY.tells {C : Cx} {priv : List Addr} {pre : List D} {d : D} {r : List D} {s₀ s₁ : Shared} {v : Value} {kap : Resume → Shared → Prop} (h : GY C priv (pre ++ d :: r) r.length s₀ v s₁ kap) {W : Addr → Prop} (bd : Bd W s₀) :
    Stp C priv s₀ s₁ ∧ (∃ T, v = .ref T ∧ ¬ W T ∧ T ∉ priv ∧ ∀ hid : Addr → Prop, ¬ hid T → Rp hid s₁.heap v d) ∧ (∀ b ∈ priv, ∃ o, s₁.heap.get? b = some o ∧ NoCode o) ∧ ∀ s'' : Shared, Gd C s'' → (∀ b ∈ priv, s''.heap.get? b = s₁.heap.get? b) → kap (.send .none) s'' := by
  obtain ⟨st, ⟨ds, T, oT, vs, hi, hv, nT, npT, eT, qT, immT⟩, hpo, hnext⟩ := h
  refine ⟨st, ⟨T, hv, fun q => (bd T q).elim fun o e => no_at e nT rfl, npT, fun hid nh => ?_⟩, hpo, hnext⟩
  rw [List.length_append, List.length_cons, Nat.add_sub_assoc (Nat.le_add_left _ _), Nat.add_sub_cancel, Nat.add_sub_cancel, List.getElem?_append_right (Nat.le_refl _), Nat.sub_self] at hi
  cases hi
  rw [hv]
  exact .tup nh eT qT (immT _ _)

set_option maxHeartbeats 1000000 in
theorem gen_for (pr : Pr C) (h0 : C.hd = none) {x : Str} {t : Tok} {W₁ : Wt} {s₁ sC : Shared} {L G g a : Addr} {cd : Value} {m : Str → Option Value} {tg : Expr} {body : List Stmt} (f₁ : Frm C F W₁ ρ s₁) (hx : x.cps.size ≤ 1000000) (hesc : escEnd false x.cps.toList = false)
    (hkeep : ∀ b o, s₁.heap.get? b = some o → sC.heap.get? b = some o) (hLn : s₁.heap.get? L = none) (hGn : s₁.heap.get? G = none) (hGL : G ≠ L) (hns : sC.heap.Ns L m) (hm : m "addr" = some (.str x t)) (hG : sC.heap.IsGen G g) (hg : g = s₁.gens.size)
    (hgens : sC.gens = s₁.gens.push (.fresh (.func R_gen.body (gEnv L a cd)))) (hos : sC.os = s₁.os)
    (I : List (Nat × List Nat) → Store → Prop) (hI : I (escF 0 false x.cps.toList) ρ) (hk : 10 ≤ F.k) (hpins : F.pins = []) (hseen : F.seen = []) (hcells : F.env.cells = [])
    (turn : ∀ ps sc gs d r ρ', I (d :: r) ρ' → ∃ ρ'', As C { F with pins := ps, sc := sc, gens := gs } tg (escD d) ρ' ρ'' ∧ Ws C { F with pins := ps, sc := sc, gens := gs } ρ'' body (fun fl ρ₃ => match fl with | .next | .cont => I r ρ₃ | _ => False))
    (done : ∀ ρ', I [] ρ' → K .next ρ') :
    codeAny (model C.prog C.w) F.A (.forLoop tg (.ref G) body [] F.env) (fun r s' => match r with | .ok f => End C F K f s' | .error e => cameBackBy (model C.prog C.w) F.A F.env (fun zz zz => False) e s') sC := by
  have hfb : (GenState.fresh (.func R_gen.body (gEnv L a cd))).bare = true := rfl
  have gdC : Gd C sC := ⟨fun b o e => hkeep b o (f₁.gd.keep b o e), f₁.gd.ta.keeps hkeep, f₁.gd.tb.keeps hkeep, hos.trans f₁.gd.os, hgens ▸ f₁.gd.bare.push hfb, fun p hp => by rw [h0] at hp; cases hp⟩
  obtain ⟨oL, es, ep, eL, dL, rL⟩ := id hns
  have ncL : NoCode oL := dict_nocode dL
  have f₁' : Frm C { F with pins := [] } W₁ ρ s₁ := hpins ▸ (show Frm C { F with pins := F.pins } W₁ ρ s₁ from f₁)
  have fA := f₁'.move (ps' := []) (news := [(L, oL)]) (gens' := sC.gens) gdC (fun b o zz zz e => hkeep b o e) rfl (all1 ⟨eL, ncL⟩) (all1 hLn) (by simp) (fun i y e => e)
  obtain ⟨oG, nm, qn, eG, cG, dG, slG⟩ := id hG
  have offG : C.off G := off_cls gdC h0 eG cG
  obtain ⟨sc', W₀, fB, hsub, scG⟩ : ∃ (sc' : Heap) (W₀ : Wt), Frm C { F with pins := [(L, oL)], sc := sc', gens := sC.gens } W₀ ρ sC ∧ (∀ b o, C.off b → F.sc.get? b = some o → sc'.get? b = some o) ∧ sc'.get? G = some oG := by
    refine ⟨_, _, fA.rebase, fun b o n e => bumpSc_sub fA b o n e, hideAll_get _ eG fun q => ?_⟩
    have q := (List.mem_filter.mp q).1
    obtain ⟨oN, _, _, eN, _⟩ := f₁.ns
    rcases List.mem_cons.mp q with q | q
    · exact no_at eN hGn q.symm
    · rcases List.mem_append.mp q with q | q
      · obtain ⟨y, q⟩ := of_cellAddrs q
        rw [show ({ F with pins := [] ++ [(L, oL)], gens := sC.gens } : Fx).env.cells = [] from hcells] at q; cases q
      · rcases List.mem_append.mp q with q | q
        · rcases List.mem_cons.mp q with q | q
          · exact hGL q
          · cases q
        · obtain ⟨y, ds, q1, q2⟩ := of_ownAddrs q
          obtain ⟨v, e3, r⟩ := f₁.owns y ds q1
          have q2 : W₁.get F.env y = some (.ref G) := q2
          obtain ⟨b, vs, n, q3, q4, _⟩ := r
          rw [q2, q3] at e3
          exact no_at q4 hGn (Value.ref.inj (Option.some.inj e3)).symm
  have szs : ∀ b o, s₁.heap.get? b = some o → b < sC.heap.objs.size := fun b o e => Heap.lt_size (hkeep b o e)
  obtain ⟨It, hIt, nIt, nEn⟩ : ∃ It, sC.heap.objs.size = It ∧ sC.heap.get? It = none ∧ sC.heap.get? (It + 1) = none := ⟨_, rfl, get_size, Heap.get?_none_of_le (Nat.le_succ _)⟩
  have hHp : ∀ b, F.H b → b ∉ [L, It + 1, It] := fun b q => by
    obtain ⟨o, e⟩ := f₁.Hb b q
    obtain ⟨o', e'⟩ : ∃ o, s₁.heap.get? b = some o := (off_or f₁.gd b).elim (fun h => ⟨o, f₁.sc b o h e⟩) id
    exact nm3 (fun z => no_at e' hLn z) (fun z => no_at (hkeep b o' e') nEn z) (fun z => no_at (hkeep b o' e') nIt z)
  have rm9 : Rm C F.A 9 := f₁.rm.mono (Nat.le_trans (by decide) hk)
  refine codeAny_forLoop_any (I := GTurn C F I sc' L It g ((escF 0 false x.cps.toList).map escD)) ?_ (escF 0 false x.cps.toList).length ?_
  · intro n s hT
    refine encl fun Go ret => ?_
    obtain ⟨W, ρ', r, ps, gs, hn, fr, hIr, hgs, hgo, hpre, hps, hgF⟩ := hT
    have isG : s.heap.IsGen G g := ⟨oG, nm, qn, fr.sc G oG offG scG, cG, dG, slG⟩
    have hprv : ∀ b ∈ [L, It + 1, It], b ∈ ps.map (·.1) ∨ s.heap.get? b = none := hps.elim (fun h => all3 (.inl (by rw [h.1]; exact .head _)) (.inr h.2.1) (.inr h.2.2)) fun h b hb => .inl (by rw [h]; exact hb)
    have gsz : g < s.gens.size := (Array.getElem?_eq_some_iff.mp hgs).1
    have gF : ∀ (i : Nat) (y : GenState), F.gens[i]? = some y → g ≠ i := fun i y e q => by
      have h1 := f₁.gens i y e
      rw [← q, hg, Array.getElem?_eq_none (Nat.le_refl _)] at h1; cases h1
    have hrun : ∀ (i : Nat) (y : GenState), F.gens[i]? = some y → (s.setGen g .running).gens[i]? = some y := fun i y e => (Array.getElem?_setIfInBounds_ne (gF i y e)).trans (hgF i y e)
    refine ret (gen_next (fr.rm.h0 h0) (fr.ok.nolimit.keeps fr.gd.keep) fr.rm.room isG hgs hgo (fun m' v s₂ gs' hnm hb hv => ?_) fun hn0 s₂ st h' hk' => ?_)
    · refine encl fun Go2 ret2 => ?_
      obtain ⟨d, r', er, em⟩ : ∃ d r', r = d :: r' ∧ m' = (r'.map escD).length := by
        cases r with
        | nil => rw [hn] at hnm; cases hnm
        | cons d r' => exact ⟨d, r', rfl, by rw [List.length_map]; exact (Nat.succ.inj (hn.symm.trans hnm)).symm⟩
      obtain ⟨pre, hpre⟩ := hpre
      rw [er, List.map_cons] at hpre
      rw [hpre, em] at hv
      obtain ⟨st, ⟨T, ev, nTW, npT, rT⟩, hpo, hnext⟩ := hv.tells (W := W.hid) fr.bd
      have g3 : Gd C (s₂.setGen g gs') := st.gd.setGen hb
      obtain ⟨oL', eL', nL'⟩ := hpo L (.head _)
      obtain ⟨oE', eE', nE'⟩ := hpo (It + 1) (.tail _ (.head _))
      obtain ⟨oI', eI', nI'⟩ := hpo It (.tail _ (.tail _ (.head _)))
      have hs3 : ∀ b o, C.off b → b ∉ ps.map (·.1) → s.heap.get? b = some o → (s₂.setGen g gs').heap.get? b = some o := fun b o ho nb e => st.keep b o ho (fun z => (hprv b z).elim nb (fun h => no_at e h rfl)) e
      obtain ⟨W3, f3, nT3⟩ : ∃ W3 : Wt, Frm C { F with pins := [(L, oL'), (It + 1, oE'), (It, oI')], sc := sc', gens := (s₂.setGen g gs').gens } W3 ρ' (s₂.setGen g gs') ∧ ¬ W3.hid T := by
        rcases hps with ⟨h1, h2, h3⟩ | h1
        · exact ⟨_, fr.move (F := { F with sc := sc', gens := s.gens }) (ps := ps) (ps' := [(L, oL')]) (news := [(It + 1, oE'), (It, oI')]) (gens' := (s₂.setGen g gs').gens) g3 hs3 h1.symm (all3 ⟨eL', nL'⟩ ⟨eE', nE'⟩ ⟨eI', nI'⟩) (all2 h2 h3) (by simp) (fun i y e => e), fun q => q.elim nTW fun q => npT (List.mem_cons_of_mem _ q)⟩
        · exact ⟨_, fr.move (F := { F with sc := sc', gens := s.gens }) (ps := ps) (ps' := [(L, oL'), (It + 1, oE'), (It, oI')]) (news := []) (gens' := (s₂.setGen g gs').gens) g3 hs3 h1.symm (all3 ⟨eL', nL'⟩ ⟨eE', nE'⟩ ⟨eI', nI'⟩) allN .nil (fun i y e => e), fun q => q.elim nTW fun q => nomatch q⟩
      have g2sz : g < s₂.gens.size := (Array.getElem?_eq_some_iff.mp (st.gens g _ (Array.getElem?_setIfInBounds_self_of_lt gsz))).1
      have g3g : (s₂.setGen g gs').gens[g]? = some gs' := Array.getElem?_setIfInBounds_self_of_lt g2sz
      have g3F : ∀ (i : Nat) (y : GenState), F.gens[i]? = some y → (s₂.setGen g gs').gens[i]? = some y := fun i y e => (Array.getElem?_setIfInBounds_ne (gF i y e)).trans (st.gens i y (hrun i y e))
      rw [er] at hIr
      obtain ⟨ρ'', ha, hb2⟩ := turn [(L, oL'), (It + 1, oE'), (It, oI')] sc' (s₂.setGen g gs').gens d r' ρ' hIr
      have rT : Rp W3.hid (s₂.setGen g gs').heap v (escD d) := rT _ nT3
      refine ret2 ?_
      rw [ev] at rT ⊢
      refine letgo_gen ⟨oG, nm, qn, f3.sc G oG offG scG, cG, dG, slG⟩ ?_
      refine ha.go W3 _ (.ref T) _ _ f3 rT fun W4 s4 f4 zz => wpAny_mono (hb2.go W4 s4 f4) (fun fl s5 he => ?_) fun zz zz x => x.elim
      obtain ⟨W5, ρ5, fl', f5, rf, hk'⟩ := he
      have fin : I r' ρ5 → ∃ m, m < n ∧ GTurn C F I sc' L It g ((escF 0 false x.cps.toList).map escD) m s5 := fun hI5 =>
        ⟨m', by rw [hnm]; exact Nat.lt_succ_self _, .mk W5 ρ5 r' _ gs' (em.trans (List.length_map _)) f5.regens hI5 (f5.gens g gs' g3g) (by
          rw [hpre, em]
          exact hnext _ (f5.gd.setGen rfl) (all3 ((f5.pins (L, oL') (.head _)).1.trans eL'.symm) ((f5.pins (It + 1, oE') (.tail _ (.head _))).1.trans eE'.symm) ((f5.pins (It, oI') (.tail _ (.tail _ (.head _)))).1.trans eI'.symm))) ⟨pre ++ [escD d], by rw [hpre, List.append_assoc]; rfl⟩ (.inr rfl) fun i y e => f5.gens i y (g3F i y e)⟩
      cases rf with
      | next => exact fin hk'
      | cont => exact fin hk'
      | brk => exact hk'.elim
      | ret _ => exact hk'.elim
    · have er : r = [] := List.length_eq_zero_iff.mp (hn.symm.trans hn0)
      rw [er] at hIr
      have g' : Gd C { s₂.setGen g .finished with heap := h' } := (Ex.of_keeps (tk := s₂.toks) (st.gd.setGen (i := g) (x := .finished) rfl) hk').gd
      exact wpAny_execs_nil ⟨_, ρ', .next, Frm.shed f₁ hsub fr hpins hseen hcells g' (priv := [L, It + 1, It]) (fun b o ho nb e => hk' b o (st.keep b o ho nb e)) hprv (fun i y e => (Array.getElem?_setIfInBounds_ne (gF i y e)).trans (st.gens i y (hrun i y e))) hHp, .next, done ρ' hIr⟩
  · refine .mk _ ρ _ [(L, oL)] (.fresh (.func R_gen.body (gEnv L a cd))) rfl fB hI (by rw [hgens, hg]; exact Array.getElem?_push_size) ⟨rfl, ?_⟩ ⟨[], rfl⟩ (.inl ⟨rfl, nEn, nIt⟩) fun i y e => ?_
    · have := gen_start (L := L) (a := a) (cd := cd) (A := F.A.in1) (x := x) (s := sC.setGen g .running) pr h0 (m := m) (t := t) ⟨rm9.1, by have := rm9.2.1; show F.A.depth + 8 < 1000; (clear hx hesc hGL hk hfb rL hIt; omega), by have := rm9.2.2; show F.A.units + 1 + 20 * 8 < 9800; (clear hx hesc hGL hk hfb rL hIt; omega)⟩ (gdC.setGen rfl) hns hm (f₁'.free (f₁'.fresh hLn)) hx hesc
      rw [show (sC.setGen g .running).heap.objs.size = It from hIt] at this
      exact this
    · have := f₁.gens i y e
      rw [hgens, Array.getElem?_push]
      have hlt : i < s₁.gens.size := (Array.getElem?_eq_some_iff.mp this).1
      rw [if_neg (Nat.ne_of_lt hlt)]
      exact this

/-- for, over what `_iter_escaped_chars` tells -/
theorem w1_gen (pr : Pr C) (h0 : C.hd = none) {x : Str} {e : Expr} {np cp p : Pos} {tg : Expr} {body : List Stmt} (he : Ev C F ρ e (.str x)) (hx : x.cps.size ≤ 1000000) (hesc : escEnd false x.cps.toList = false)
    (I : List (Nat × List Nat) → Store → Prop) (hI : I (escF 0 false x.cps.toList) ρ) (hk : 10 ≤ F.k) (hpins : F.pins = []) (hseen : F.seen = []) (hcells : F.env.cells = []) (hglob : F.env.kindOf (Str.ofString "_iter_escaped_chars") = some .globalImplicit)
    (hev : backTo cp (starEach [e] F.env) = (false, eval e F.env) :: backTo cp (starEach [] F.env))
    (turn : ∀ ps sc gs d r ρ', I (d :: r) ρ' → ∃ ρ'', As C { F with pins := ps, sc := sc, gens := gs } tg (escD d) ρ' ρ'' ∧ Ws C { F with pins := ps, sc := sc, gens := gs } ρ'' body (fun fl ρ₃ => match fl with | .next | .cont => I r ρ₃ | _ => False))
    (done : ∀ ρ', I [] ρ' → K .next ρ') : W1 C F ρ (.For tg (.Call (.Name (Str.ofString "_iter_escaped_chars") np) [e] [] cp) body [] p) K := .mk fun W s f => by
  obtain ⟨a, hf⟩ := pr.fn "_iter_escaped_chars" _ P_gen.2
  obtain ⟨fdi, hfn⟩ := hf.fn
  refine wpAny_For (hs := fun zz => rfl) (call_raw hfn (evs_cons he evs_nil hev) f hglob fun vs s₁ x₁ r₁ => ?_)
  have f₁ := f.ex x₁
  obtain ⟨v, rfl, rv⟩ := r₁.one
  obtain ⟨t, rfl⟩ := rv.str_inv
  obtain ⟨o, pm, cd, doc, eo, hd, hc⟩ := hf.at_
  refine wpAny_call (codeAny_call_generator f₁.rm.room (f₁.gd.keep _ _ eo) hd (by rfl) (by rfl) rfl (hc.keeps f₁.gd.keep) ?_)
  refine wpAny_of_eq (a := [(Str.ofString "addr", Value.str x t)]) (by rfl) ?_
  refine wpAny_newFunctionEnv (show ∀ y ∈ R_gen.scope.names, y.2 ≠ .cell by decide) (all1 rfl) (fun h₂ hns hsb => ?_) (by rfl)
  have keep₂ : ∀ b o, s₁.heap.get? b = some o → h₂.get? b = some o := fun b o eb => hsb.extBut b o (fun q => no_at eb get_size q) (Heap.get?_push_of_some _ eb)
  refine ⟨(f₁.ok.nolimit.keeps f₁.gd.keep).keeps keep₂, ?_⟩
  dsimp only [wants]
  have hLs : s₁.heap.objs.size < h₂.objs.size := by obtain ⟨o, _, _, e, _⟩ := hns; exact Heap.lt_size e
  have isG : (h₂.push { cls := .type "generator", data := .fields #[.int s₁.gens.size 0, .str (docDef (Str.ofString "_iter_escaped_chars") P_gen.1.params P_gen.1.body P_gen.1.scope pm cd doc).name (s₁.toks + [(Str.ofString "addr", Value.str x t)].length), .str (docDef (Str.ofString "_iter_escaped_chars") P_gen.1.params P_gen.1.body P_gen.1.scope pm cd doc).qualname (s₁.toks + [(Str.ofString "addr", Value.str x t)].length + 1)] }).IsGen h₂.objs.size s₁.gens.size :=
    ⟨_, _, _, Heap.get?_push_size _ rfl, rfl, rfl, rfl⟩
  refine wpAny_pyIter_gen isG ?_
  refine gen_for (L := s₁.heap.objs.size) (a := a) (cd := cd) (t := t) (m := fun y => [(Str.ofString "addr", Value.str x t)].reverse.lookup y) pr h0 f₁ hx hesc (fun b o eb => Heap.get?_push_of_some _ (keep₂ b o eb)) get_size (Heap.get?_none_of_le (Nat.le_of_lt hLs)) (Nat.ne_of_gt hLs) ?_ rfl isG rfl rfl rfl I hI hk hpins hseen hcells turn done
  obtain ⟨o2, es, ep, q1, q2⟩ := hns
  exact ⟨o2, es, ep, Heap.get?_push_of_some _ q1, q2⟩
end
end Mine
/-! S18 -/
namespace Mine
open PySem PySem.W PySem.Spec PySem.Calls PyProof.Rows PySem.SeqAt

/-! ## `_strip_quoted_realnames` -/
structure SS where
  start : Nat
  op : Option Nat
  res : List Str
noncomputable def stStep (x : Str) (s : SS) (it : Nat × List Nat) : SS :=
  if it.2 = [34] then match s.op with
    | none => { s with op := some it.1 }
    | some o => ⟨it.1 + 1, none, if s.start = o then s.res else s.res ++ [Txt.slice x (some (s.start : Int)) (some (o : Int))]⟩
  else s
noncomputable def stFold (x : Str) : SS := (escF 0 false x.cps.toList).foldl (stStep x) ⟨0, none, []⟩
noncomputable def stParts (x : Str) : List Str := if (stFold x).start < x.length then (stFold x).res ++ [Txt.slice x (some ((stFold x).start : Int)) none] else (stFold x).res
noncomputable def opD : Option Nat → D
  | none => .none
  | some o => .int (o : Int)
noncomputable abbrev stσ (x : Str) (s : SS) : Store := [("start", .val (.int (s.start : Int))), ("open_pos", .val (opD s.op)), ("result", .own (lS s.res)), ("addr", .val (.str x))]

noncomputable abbrev P_strip : {d : DefRec // defOf pw "_strip_quoted_realnames" = some (d, [])} := ⟨_, rfl⟩
noncomputable abbrev R_strip : DefRec := P_strip.1
theorem lS_append (a b : List Str) : lS (a ++ b) = lS a ++ lS b := List.map_append
theorem escF_len : ∀ (l : List Nat) (k : Nat) (e : Bool), (escF k e l).length ≤ l.length + 1
  | [], k, true => Nat.le_refl _
  | [], k, false => Nat.zero_le _
  | c :: r, k, true => by have := escF_len r (k + 1) false; simp only [escF, List.length_cons]; lia
  | c :: r, k, false => by
    have h1 := escF_len r (k + 1) false
    have h2 := escF_len r (k + 1) true
    rw [escF]
    split <;> simp only [List.length_cons] <;> lia
set_option maxHeartbeats 1000000 in
theorem t_strip {C : Cx} (pr : Pr C) (h0 : C.hd = none) (x : Str) (hx : x.length ≤ 500000) (hq : Txt.contains x "\"" = true) (hesc : escEnd false x.cps.toList = false) (hj : ((stParts x).map (·.length)).sum + (stParts x).length ≤ 1048576) : Does C "_strip_quoted_realnames" 12 [.str x] (.str (Txt.join "" (stParts x))) := by
  refine does (d := R_strip) (names := ["addr"]) pr P_strip.2 rfl (by decide) rfl (fun pm cd doc vs hl => ?_) (by decide) (fun L a cd A s hid => ?_)
  · obtain ⟨v, rfl⟩ := len_1 hl; rfl
  · have hsl : (16777216 : Nat) ≤ sizeLine := by decide
    refine ws_skip (Ts.cast (b := !Txt.contains x "\"") (by rw [hq]; rfl) (ts_cmp ev_str vl cmp_snotin kle)) ?_
    refine ws_cons (w1_assign (d := .int ((0 : Nat) : Int)) ev_int ?_ rfl)
    refine ws_cons (w1_assign (d := .none) ev_none ?_ rfl)
    refine ws_cons (w1_assign_new (evnew_list evs_nil) ?_ rfl)
    have hel := escF_len x.cps.toList 0 false
    have hxs : x.cps.toList.length = x.length := by simp [Str.length]
    refine ws_cons (w1_gen pr h0 (x := x) (vl (d := .str x)) (by show x.length ≤ _; (clear hq hesc hj hsl hel; lia)) hesc
      (fun r ρ' => ∃ (t : SS) (pre : List (Nat × List Nat)), escF 0 false x.cps.toList = pre ++ r ∧ t = pre.foldl (stStep x) ⟨0, none, []⟩ ∧ t.res.length ≤ pre.length ∧ Sub (stσ x t) ρ')
      ⟨⟨0, none, []⟩, [], rfl, rfl, Nat.le_refl _, rfl, rfl, rfl, rfl, trivial⟩ kle rfl rfl rfl rfl rfl ?_ ?_)
    · rintro ps sc gs ⟨p, y⟩ r ρ' ⟨t, pre, e1, e2, e3, hS⟩
      have hpl : pre.length ≤ 500001 := by
        have := congrArg List.length e1
        rw [List.length_append] at this; (clear hq hesc hj hsl e3; lia)
      refine ⟨_, as_sub hS (as_tuple (.cons (as_name rfl) (.cons (as_name rfl) .nil rfl) rfl)), ?_⟩
      have fin : ∀ (t' : SS) (ρ₃ : Store), stStep x t (p, y) = t' → t'.res.length ≤ pre.length + 1 → Sub (stσ x t') ρ₃ → ∃ (t : SS) (pre : List (Nat × List Nat)), escF 0 false x.cps.toList = pre ++ r ∧ t = pre.foldl (stStep x) ⟨0, none, []⟩ ∧ t.res.length ≤ pre.length ∧ Sub (stσ x t) ρ₃ := fun t' ρ₃ h1 h2 h3 => by
        refine ⟨t', pre ++ [(p, y)], by rw [e1, List.append_assoc]; rfl, ?_, by simpa using h2, h3⟩
        rw [List.foldl_append, ← e2]; exact h1.symm
      have hb : ((⟨y.toArray⟩ : Str) == Str.ofString "\"") = decide (y = [34]) := by
        rw [Bool.eq_iff_iff, beq_iff_eq, decide_eq_true_iff]
        refine ⟨fun q => ?_, fun q => by rw [q]; rfl⟩
        have q2 : y.toArray = #[34] := congrArg Str.cps q
        have := congrArg Array.toList q2
        simpa using this
      refine ws_last (w1_if (Ts.cast hb (ts_cmp vl ev_str cmp_seq kle)) (fun q => ?_) (fun q => ?_))
      · have q := of_decide_eq_true q
        obtain ⟨st, op, res⟩ := t
        have e3 : res.length ≤ pre.length := e3
        cases op with
        | none =>
          refine ws_last (w1_if (b := true) (ts_cmp (vl (d := .none)) ev_none cmp_is_nn kle) (fun zz => ?_) nofun)
          refine ws_cons (w1_assign (vl (d := .int (p : Int))) ?_ rfl)
          exact ws_nil (fin ⟨st, some p, res⟩ _ (by unfold stStep; rw [if_pos q]) (by show res.length ≤ _; (clear hx hq hesc hj hsl hel hxs hpl hb e3; lia)) ⟨rfl, rfl, rfl, rfl, trivial⟩)
        | some o =>
          refine ws_last (w1_if (b := false) (ts_cmp (vl (d := .int (o : Int))) ev_none cmp_is_in kle) nofun (fun zz => ?_))
          by_cases hso : st = o
          · refine ws_skip (Ts.cast (b := ((st : Int) != (o : Int))) (by rw [hso]; simp) (ts_cmp (vl (d := .int (st : Int))) (vl (d := .int (o : Int))) cmp_ne kle)) ?_
            refine ws_cons (w1_assign (d := .int ((p + 1 : Nat) : Int)) (Ev.cast (b := .int ((p : Int) + 1)) (by rw [Int.natCast_add]; rfl) (ev_bin (vl (d := .int (p : Int))) ev_int bin_add kle)) ?_ rfl)
            refine ws_cons (w1_assign (d := .none) ev_none ?_ rfl)
            exact ws_nil (fin ⟨p + 1, none, res⟩ _ (by unfold stStep; rw [if_pos q]; simp [hso]) (by show res.length ≤ _; (clear hx hq hesc hj hsl hel hxs hpl hb e3 hso; lia)) ⟨rfl, rfl, rfl, rfl, trivial⟩)
          · refine ws_cons (w1_if (b := true) (Ts.cast (b := ((st : Int) != (o : Int))) (by rw [bne_iff_ne]; exact fun z => hso (Int.ofNat.inj z)) (ts_cmp (vl (d := .int (st : Int))) (vl (d := .int (o : Int))) cmp_ne kle)) (fun zz => ?_) nofun)
            refine ws_cons (w1_append (x := "result") (ds := lS res) (d := .str (Txt.slice x (some (st : Int)) (some (o : Int)))) rfl rfl (ev_slice (vl (d := .str x)) (.some (vl (d := .int (st : Int)))) (.some (vl (d := .int (o : Int)))) .none (slc_str (by (clear hq hesc hj hel hpl hb e3 hso; lia))) trivial kle) (by unfold lS; rw [List.length_map]; (clear hx hq hesc hj hel hxs hb e3 hso; lia)) ?_)
            refine ws_nil ?_
            refine ws_cons (w1_assign (d := .int ((p + 1 : Nat) : Int)) (Ev.cast (b := .int ((p : Int) + 1)) (by rw [Int.natCast_add]; rfl) (ev_bin (vl (d := .int (p : Int))) ev_int bin_add kle)) ?_ rfl)
            refine ws_cons (w1_assign (d := .none) ev_none ?_ rfl)
            exact ws_nil (fin ⟨p + 1, none, res ++ [Txt.slice x (some (st : Int)) (some (o : Int))]⟩ _ (by unfold stStep; rw [if_pos q]; simp [hso]) (by show (res ++ _).length ≤ _; simp; (clear hx hq hesc hj hsl hel hxs hpl hb e3 hso; omega)) ⟨rfl, rfl, by rw [lS_append]; rfl, rfl, trivial⟩)
      · have q := of_decide_eq_false q
        exact ws_nil (fin t _ (by unfold stStep; rw [if_neg q]) (by (clear hx hq hesc hj hsl hel hxs hpl hb q; lia)) ⟨rfl, rfl, rfl, rfl, trivial⟩)
    · rintro ρ' ⟨t, pre, e1, e2, e3, hS⟩
      rw [List.append_nil] at e1
      have ht : t = stFold x := by rw [e2, ← e1]; rfl
      rw [← e1] at e3
      refine ws_sub hS ?_
      have bjoin : ∀ (ρ : Store) (parts : List Str), stParts x = parts → ρ.lookup (Str.ofString "result") = some (.own (lS parts)) → Ws C (Fx.fn (envOf "_strip_quoted_realnames" R_strip.scope L a cd) A 11 s hid) ρ (R_strip.body.drop 6) (fun fl zz => fl = .ret (.str (Txt.join "" (stParts x)))) := fun ρ parts hp hr => by
        refine ws_freeze (x := "result") hr ?_
        exact ws_cons (w1_ret (ev_meth (T := "str") (d := .str (Txt.join "" (stParts x))) (ev_str (x := Str.ofString "")) (evs_cons (vl (d := .lst (lS parts))) evs_nil) rfl (by rw [hp]; exact call_join (by decide) (by rw [← hp]; exact hj)) (Nat.zero_le _) PySem.F.plainAttrs_str PySem.F.slot_str_join PySem.F.type_str_join) rfl)
      by_cases hlt : (stFold x).start < x.length
      · have hp : stParts x = (stFold x).res ++ [Txt.slice x (some ((stFold x).start : Int)) none] := if_pos hlt
        refine ws_cons (w1_if (b := true) (Ts.cast (b := decide ((t.start : Int) < (x.length : Int))) (by rw [ht]; simpa using hlt) (ts_cmp (vl (d := .int (t.start : Int))) (ev_call_bi pr.len bt_len (evs_cons (vl (d := .str x)) evs_nil) (call_len_str (x := x) (by (clear hq hesc hj hsl hel e3 hlt; lia))) kle rfl) cmp_lt kle)) (fun zz => ?_) nofun)
        refine ws_cons (w1_append (x := "result") (ds := lS t.res) (d := .str (Txt.slice x (some (t.start : Int)) none)) rfl rfl (ev_slice (vl (d := .str x)) (.some (vl (d := .int (t.start : Int)))) .none .none (slc_str (by (clear hq hesc hj hel e3 hlt; lia))) trivial kle) (by unfold lS; rw [List.length_map]; (clear hq hesc hj hlt; lia)) ?_)
        refine ws_nil ?_
        exact bjoin _ _ hp (by rw [ht, lS_append]; rfl)
      · have hp : stParts x = (stFold x).res := if_neg hlt
        refine ws_skip (Ts.cast (b := decide ((t.start : Int) < (x.length : Int))) (by rw [ht]; simpa using hlt) (ts_cmp (vl (d := .int (t.start : Int))) (ev_call_bi pr.len bt_len (evs_cons (vl (d := .str x)) evs_nil) (call_len_str (x := x) (by (clear hq hesc hj hsl hel e3 hlt; lia))) kle rfl) cmp_lt kle)) ?_
        exact bjoin _ _ hp (by rw [ht]; rfl)
end Mine
/-! Q1 -/
namespace Mine
open PySem PySem.W PySem.Spec PySem.Calls PyProof.Rows PySem.SeqAt

/-! # the texts, as lists of code points -/
noncomputable def dotsL (d : Int) : List Nat := List.replicate d.toNat 46
noncomputable def lineL (d : Int) (w : Str) : List Nat := dotsL d ++ w.cps.toList
noncomputable def mailR : List Ent → Int → List Nat
  | [], _ => []
  | e :: r, sh => lineL e.1 e.2.1 ++ ((eolN (sh.fmod 3).toNat).cps.toList ++ mailR r (sh + 1))
noncomputable def fixedR : List Ent → List Nat
  | [] => []
  | e :: r => lineL e.1 e.2.1 ++ (13 :: 10 :: fixedR r)
noncomputable def dueR : List Ent → List Nat
  | [] => []
  | e :: r => lineL (moreOf e.1) e.2.1 ++ (13 :: 10 :: dueR r)
noncomputable def leftE (e : Ent) : List Nat := if e.2.2 = 0 then lineL (moreOf e.1) e.2.1 ++ [13, 10] else if e.2.2 = 1 then e.2.1.cps.toList.dropLast else if e.2.2 = 3 then [13, 10] else []
noncomputable def leftR : List Ent → List Nat
  | [] => []
  | e :: r => leftE e ++ leftR r
noncomputable def numsE (e : Ent) : List Int := if e.2.2 = 0 then List.replicate ((moreOf e.1).fdiv 3).toNat 52 ++ List.replicate ((moreOf e.1).fmod 3).toNat 23 ++ (markL.lookup (Txt.slice e.2.1 none (some 1))).getD [] else []
noncomputable def numsR : List Ent → List Int
  | [] => []
  | e :: r => numsE e ++ numsR r

/-- a word that may stand behind the dots -/
noncomputable def Word (w : Str) : Prop := ∀ c ∈ w.cps.toList, c = 42 ∨ c = 43 ∨ c = 45 ∨ c = 59 ∨ c = 34 ∨ c = 92 ∨ c = 12
structure EntL (e : Ent) : Prop where
  d0 : 0 ≤ e.1
  d4 : e.1 ≤ 4
  w : Word e.2.1

theorem app_l (a b : Str) : (a ++ b).cps.toList = a.cps.toList ++ b.cps.toList := by
  show (a.cps ++ b.cps).toList = _
  rw [Array.toList_append]
theorem mul_l {d : Int} (h0 : 0 ≤ d) (h1 : d ≤ 5) : (Txt.mul "." d).cps.toList = dotsL d := by
  have : d = 0 ∨ d = 1 ∨ d = 2 ∨ d = 3 ∨ d = 4 ∨ d = 5 := by lia
  rcases this with rfl | rfl | rfl | rfl | rfl | rfl <;> rfl
theorem line_l {d : Int} (h0 : 0 ≤ d) (h1 : d ≤ 5) (w : Str) : (lineOf d w).cps.toList = lineL d w := by
  unfold lineOf lineL
  rw [app_l, mul_l h0 h1]
theorem more_le {d : Int} (h0 : 0 ≤ d) (h1 : d ≤ 4) : 0 ≤ moreOf d ∧ moreOf d ≤ 5 := by unfold moreOf; split <;> lia
theorem texts_R : ∀ (page : List Ent) (s : TS), (∀ e ∈ page, EntL e) → (page.foldl tsStep s).mail.cps.toList = s.mail.cps.toList ++ mailR page s.shift ∧ (page.foldl tsStep s).due.cps.toList = s.due.cps.toList ++ dueR page ∧ (page.foldl tsStep s).nums = s.nums ++ numsR page
  | [], s, _ => ⟨by simp [mailR], by simp [dueR], by simp [numsR]⟩
  | e :: r, s, h => by
    have he := h e (.head _)
    obtain ⟨i1, i2, i3⟩ := texts_R r (tsStep s e) fun x hx => h x (.tail _ hx)
    have m := more_le he.d0 he.d4
    rw [List.foldl_cons]
    refine ⟨?_, ?_, ?_⟩
    · rw [i1]
      show (s.mail ++ (lineOf e.1 e.2.1 ++ eolN (s.shift.fmod 3).toNat)).cps.toList ++ mailR r (s.shift + 1) = _
      rw [app_l, app_l, line_l he.d0 (by have := he.d4; (clear m; lia)), mailR, List.append_assoc, List.append_assoc]
    · rw [i2]
      show (s.due ++ (lineOf (moreOf e.1) e.2.1 ++ "\r\n")).cps.toList ++ dueR r = _
      rw [app_l, app_l, line_l m.1 m.2, dueR, List.append_assoc, List.append_assoc]; rfl
    · rw [i3]
      show (if e.2.2 == 0 then s.nums ++ (List.replicate ((moreOf e.1).fdiv 3).toNat 52 ++ List.replicate ((moreOf e.1).fmod 3).toNat 23) ++ (markL.lookup (Txt.slice e.2.1 none (some 1))).getD [] else s.nums) ++ numsR r = s.nums ++ (numsE e ++ numsR r)
      by_cases q : e.2.2 = 0
      · rw [if_pos (by simpa using q), show numsE e = _ from if_pos q]; simp only [List.append_assoc]
      · rw [if_neg (by simpa using q), show numsE e = _ from if_neg q]; rfl

/-! ## the ends of the lines -/
theorem fix_app : ∀ (u v : List Nat), (∀ c ∈ u, c ≠ 10 ∧ c ≠ 13) → fixL (u ++ v) = u ++ fixL v
  | [], v, _ => rfl
  | c :: u, v, h => by
    rw [List.cons_append, fixL_plain (h c (.head _)).1 (h c (.head _)).2, fix_app u v fun x hx => h x (.tail _ hx)]; rfl
theorem line_chars {d : Int} {w : Str} (hw : Word w) : ∀ c ∈ lineL d w, c = 46 ∨ c = 42 ∨ c = 43 ∨ c = 45 ∨ c = 59 ∨ c = 34 ∨ c = 92 ∨ c = 12 := by
  intro c hc
  rcases List.mem_append.mp hc with h | h
  · exact .inl (List.eq_of_mem_replicate h)
  · exact .inr (hw c h)
theorem line_no {d : Int} {w : Str} (hw : Word w) : ∀ c ∈ lineL d w, c ≠ 10 ∧ c ≠ 13 := by
  intro c hc
  rcases line_chars hw c hc with h | h | h | h | h | h | h | h <;> lia
theorem eol_l (k : Nat) (hk : k < 3) : (eolN k).cps.toList = if k = 0 then [10] else if k = 1 then [13] else [13, 10] := by
  have : k = 0 ∨ k = 1 ∨ k = 2 := by lia
  rcases this with rfl | rfl | rfl <;> rfl
theorem mail_head (page : List Ent) (sh : Int) (h : ∀ e ∈ page, EntL e) (hs : (sh.fmod 3).toNat = 2) : ∀ t, mailR page sh ++ [46] ≠ 10 :: t := by
  intro t q
  cases page with
  | nil => cases q
  | cons e r =>
    rw [mailR] at q
    cases hl : lineL e.1 e.2.1 with
    | nil =>
      rw [hl, eol_l _ (by omega), hs] at q
      cases q
    | cons c l =>
      rw [hl] at q
      have := line_no (h e (.head _)).w c (by rw [hl]; exact .head _)
      simp only [List.cons_append, List.cons.injEq] at q
      exact this.1 q.1
theorem fix_mail : ∀ (page : List Ent) (sh : Int), (∀ e ∈ page, EntL e) → fixL (mailR page sh ++ [46]) = fixedR page ++ [46]
  | [], sh, _ => rfl
  | e :: r, sh, h => by
    have ih := fix_mail r (sh + 1) fun x hx => h x (.tail _ hx)
    have hm := fmod_lt (a := sh) (b := 3) (by decide)
    have e1 : mailR (e :: r) sh ++ [46] = lineL e.1 e.2.1 ++ ((eolN (sh.fmod 3).toNat).cps.toList ++ (mailR r (sh + 1) ++ [46])) := by simp only [mailR, List.append_assoc]
    have e2 : fixedR (e :: r) ++ [46] = lineL e.1 e.2.1 ++ (13 :: 10 :: (fixedR r ++ [46])) := by simp only [fixedR, List.append_assoc, List.cons_append]
    rw [e1, e2, fix_app _ _ (line_no (h e (.head _)).w)]
    congr 1
    rw [eol_l _ (by omega)]
    have : (sh.fmod 3).toNat = 0 ∨ (sh.fmod 3).toNat = 1 ∨ (sh.fmod 3).toNat = 2 := by lia
    rcases this with q | q | q <;> rw [q]
    · show fixL (10 :: (mailR r (sh + 1) ++ [46])) = _
      rw [fixL_lf, ih]
    · show fixL (13 :: (mailR r (sh + 1) ++ [46])) = _
      have hs2 : ((sh + 1).fmod 3).toNat = 2 := by
        rw [fmod_pos (by decide)] at q ⊢; (clear hm; lia)
      have hh := mail_head r (sh + 1) (fun x hx => h x (.tail _ hx)) hs2
      cases hv : mailR r (sh + 1) ++ [46] with
      | nil => simp at hv
      | cons c t =>
        rw [fixL_cr (fun z => hh t (by rw [hv, z])), ← hv, ih]
    · show fixL (13 :: 10 :: (mailR r (sh + 1) ++ [46])) = _
      rw [fixL_crlf, ih]

/-! ## the dots ahead of the lines -/
theorem quo_app : ∀ (u v : List Nat), (∀ c ∈ u, c ≠ 10) → quoL false (u ++ v) = u ++ quoL false v
  | [], v, _ => rfl
  | c :: u, v, h => by
    rw [List.cons_append, quoL, if_neg (fun q => Bool.false_ne_true q.1), show (c == 10) = false from beq_eq_false_iff_ne.mpr (h c (.head _)), quo_app u v fun x hx => h x (.tail _ hx)]; rfl
theorem quo_line {d : Int} {w : Str} (h0 : 0 ≤ d) (hw : Word w) (v : List Nat) : quoL true (lineL d w ++ (13 :: 10 :: v)) = lineL (moreOf d) w ++ (13 :: 10 :: quoL true v) := by
  have crlf : ∀ b, quoL b (13 :: 10 :: v) = 13 :: 10 :: quoL true v := fun b => by
    rw [quoL, if_neg (fun q => absurd q.2 (by decide)), quoL, if_neg (fun q => absurd q.2 (by decide))]; rfl
  cases hl : lineL d w with
  | nil =>
    have hd : dotsL d = [] := (List.append_eq_nil_iff.mp hl).1
    have hw0 : w.cps.toList = [] := (List.append_eq_nil_iff.mp hl).2
    have hd0 : d.toNat = 0 := by have := congrArg List.length hd; simpa [dotsL] using this
    have : d = 0 := by lia
    subst this
    rw [show lineL (moreOf 0) w = [] by unfold lineL; rw [hw0]; rfl]
    exact crlf true
  | cons c l =>
    by_cases hd0 : d = 0
    · subst hd0
      have e : lineL (moreOf 0) w = lineL 0 w := rfl
      rw [e, hl]
      have hc : c ∈ w.cps.toList := by
        have : lineL 0 w = w.cps.toList := rfl
        rw [this] at hl; rw [hl]; exact .head _
      have hcc := hw c hc
      have hno : ∀ x ∈ c :: l, x ≠ 10 := fun x hx => (line_no hw x (by rw [hl]; exact hx)).1
      rw [List.cons_append, quoL, if_neg (fun q => by rw [q.2] at hcc; (clear h0 q; lia)), show (c == 10) = false from beq_eq_false_iff_ne.mpr (hno c (.head _)), quo_app l _ fun x hx => hno x (.tail _ hx), crlf]; rfl
    · have hdp : d.toNat = (d.toNat - 1) + 1 := by lia
      have e1 : lineL d w = 46 :: (List.replicate (d.toNat - 1) 46 ++ w.cps.toList) := by
        unfold lineL dotsL
        rw [hdp, List.replicate_succ]; rfl
      have e2 : lineL (moreOf d) w = 46 :: 46 :: (List.replicate (d.toNat - 1) 46 ++ w.cps.toList) := by
        unfold lineL dotsL
        have hm : (moreOf d).toNat = (d.toNat - 1) + 1 + 1 := by unfold moreOf; split <;> (clear hd0; grind)
        rw [hm, List.replicate_succ, List.replicate_succ]; rfl
      rw [hl] at e1
      obtain ⟨rfl, rfl⟩ := List.cons.inj e1
      have hno : ∀ x ∈ 46 :: (List.replicate (d.toNat - 1) 46 ++ w.cps.toList), x ≠ 10 := fun x hx => (line_no hw x (by rw [hl]; exact hx)).1
      rw [e2, List.cons_append, quoL, if_pos ⟨rfl, rfl⟩, quo_app _ _ fun x hx => hno x (.tail _ hx), crlf]; rfl
theorem quo_fixed : ∀ (page : List Ent), (∀ e ∈ page, EntL e) → quoL true (fixedR page ++ [46]) = dueR page ++ [46, 46]
  | [], _ => rfl
  | e :: r, h => by
    rw [fixedR, dueR, List.append_assoc, List.append_assoc]
    show quoL true (lineL e.1 e.2.1 ++ (13 :: 10 :: (fixedR r ++ [46]))) = _
    rw [quo_line (h e (.head _)).d0 (h e (.head _)).w, quo_fixed r fun x hx => h x (.tail _ hx)]; rfl
/-- the mail is sent whole -/
theorem sent_due (page : List Ent) (sh : Int) (h : ∀ e ∈ page, EntL e) : quoL true (fixL (mailR page sh ++ [46])) = dueR page ++ [46, 46] := by
  rw [fix_mail page sh h, quo_fixed page h]
end Mine
/-! Q2 -/
namespace Mine
open PySem PySem.W PySem.Spec PySem.Calls PyProof.Rows PySem.SeqAt
open PySem.Builtin PySem.Builtin.Str

theorem idx_clip (len i j : Nat) : strSliceIndices (some (i : Int)) (some (j : Int)) 1 len = strSliceIndices (some ((min i len : Nat) : Int)) (some ((min j len : Nat) : Int)) 1 len := by
  have e : ∀ i : Nat, max (0 : Int) (min (i : Int) (len : Int)) = max (0 : Int) (min ((min i len : Nat) : Int) (len : Int)) := fun i => by
    by_cases h : i ≤ len
    · rw [Nat.min_eq_left h]
    · rw [Nat.min_eq_right (Nat.le_of_not_le h), Int.min_self, Int.min_eq_right (Int.ofNat_le.mpr (Nat.le_of_not_le h))]
  simp only [strSliceIndices, nn, if_false, e i, e j, if_pos (show (1 : Int) > 0 by decide)]
theorem sl_nat (x : Str) (a b : Nat) (h : a ≤ b) : (Txt.slice x (some (a : Int)) (some (b : Int))).cps.toList = (x.cps.toList.drop a).take (b - a) := by
  have hl : x.length = x.cps.toList.length := Array.length_toList.symm
  have e : Txt.slice x (some (a : Int)) (some (b : Int)) = Txt.slice x (some ((min a x.length : Nat) : Int)) (some ((min b x.length : Nat) : Int)) := by
    show StrLaws.sliceText x _ _ = StrLaws.sliceText x _ _
    unfold StrLaws.sliceText
    rw [idx_clip]
  rw [e, eq_of_beq (slice_closes (x := x) (i := ((min a x.length : Nat) : Int)) (j := ((min b x.length : Nat) : Int)) ⟨Int.natCast_nonneg _, Int.ofNat_le.mpr (Nat.le_min.mpr ⟨Nat.le_trans (Nat.min_le_left _ _) h, Nat.min_le_right _ _⟩), Int.ofNat_le.mpr (Nat.min_le_right _ _)⟩)]
  simp only [Int.toNat_natCast]
  rw [hl, kmk_drop_min]
  rw [Int.toNat_sub]
  exact take_min _ a b
theorem sl_from (x : Str) (a : Nat) (h : a ≤ x.length) : (Txt.slice x (some (a : Int)) none).cps.toList = x.cps.toList.drop a := by
  have hl : x.length = x.cps.toList.length := Array.length_toList.symm
  rw [eq_of_beq (slice_closes_from (x := x) (i := (a : Int)) ⟨Int.natCast_nonneg _, Int.ofNat_le.mpr h⟩)]
  simp only [Int.toNat_natCast]
  exact List.take_of_length_le (by rw [List.length_drop]; exact Nat.le_of_eq (Int.toNat_sub _ _).symm)

/-! ## what stands in no pair of marks -/
noncomputable def stripM : Bool → Option (List Nat) → List Nat → List Nat
  | _, none, [] => []
  | _, some p, [] => p
  | true, none, c :: r => c :: stripM false none r
  | false, none, c :: r => if c = 92 then c :: stripM true none r else if c = 34 then stripM false (some [34]) r else c :: stripM false none r
  | true, some p, c :: r => stripM false (some (p ++ [c])) r
  | false, some p, c :: r => if c = 92 then stripM true (some (p ++ [c])) r else if c = 34 then stripM false none r else stripM false (some (p ++ [c])) r
noncomputable def flatS (l : List Str) : List Nat := l.flatMap (·.cps.toList)
theorem flatS_app (a b : List Str) : flatS (a ++ b) = flatS a ++ flatS b := List.flatMap_append
noncomputable def partsOf (x : Str) (f : SS) : List Str := if f.start < x.length then f.res ++ [Txt.slice x (some (f.start : Int)) none] else f.res
theorem take_succ' {T : List Nat} {k : Nat} {c : Nat} {r : List Nat} (h : T.drop k = c :: r) (s : Nat) (hs : s ≤ k) : (T.drop s).take (k + 1 - s) = (T.drop s).take (k - s) ++ [c] := by
  have hk : k < T.length := by
    apply Nat.lt_of_not_le; intro q
    rw [List.drop_of_length_le q] at h; cases h
  rw [show k + 1 - s = (k - s) + 1 by (clear hk; grind), List.take_add_one]
  congr 1
  rw [List.getElem?_drop, show s + (k - s) = k by (clear hk; grind), List.getElem?_eq_getElem hk]
  rw [List.drop_eq_getElem_cons hk] at h
  rw [(List.cons.inj h).1]; rfl
noncomputable def stripR (T : List Nat) (st : Nat) (op : Option Nat) (k : Nat) (e : Bool) (r : List Nat) : List Nat := match op with
  | none => (T.drop st).take (k - st) ++ stripM e none r
  | some o => (T.drop st).take (o - st) ++ stripM e (some ((T.drop o).take (k - o))) r
theorem strip_parts (x : Str) : ∀ (r : List Nat) (k : Nat) (e : Bool) (s : SS), x.cps.toList.drop k = r → k ≤ x.length → s.start ≤ k → (∀ o, s.op = some o → s.start ≤ o ∧ o < k) → escEnd e r = false →
    flatS (partsOf x ((escF k e r).foldl (stStep x) s)) = flatS s.res ++ stripR x.cps.toList s.start s.op k e r := by
  have hl : x.length = x.cps.toList.length := by simp [Str.length]
  intro r
  induction r with
  | nil =>
    intro k e s hr hk hs ho he
    have hks : k = x.cps.toList.length := by
      have := List.drop_eq_nil_iff.mp hr
      (clear hs he; lia)
    have he : e = false := he
    subst he
    show flatS (partsOf x s) = _
    unfold partsOf
    obtain ⟨st, op, res⟩ := s
    have hs : st ≤ k := hs
    have e1 : (if st < x.length then res ++ [Txt.slice x (some (st : Int)) none] else res) = (if st < x.length then res ++ [Txt.slice x (some (st : Int)) none] else res) := rfl
    have e2 : flatS (if st < x.length then res ++ [Txt.slice x (some (st : Int)) none] else res) = flatS res ++ x.cps.toList.drop st := by
      by_cases q : st < x.length
      · rw [if_pos q, flatS_app]
        congr 1
        show (Txt.slice x (some (st : Int)) none).cps.toList ++ [] = _
        rw [sl_from x st (by (clear hk he hs; grind)), List.append_nil]
      · rw [if_neg q, List.drop_of_length_le (by (clear hk he; lia)), List.append_nil]
    refine e2.trans ?_
    congr 1
    cases op with
    | none =>
      show _ = (x.cps.toList.drop st).take (k - st) ++ []
      rw [List.append_nil, List.take_of_length_le (by rw [List.length_drop]; (clear hl hk he hs; lia))]
    | some o =>
      obtain ⟨h1, h2⟩ := ho o rfl
      have h1 : st ≤ o := h1
      show _ = (x.cps.toList.drop st).take (o - st) ++ (x.cps.toList.drop o).take (k - o)
      rw [List.take_of_length_le (i := k - o) (by rw [List.length_drop]; (clear hl hk he hs h1; lia))]
      have := List.take_append_drop (o - st) (x.cps.toList.drop st)
      rw [List.drop_drop, show st + (o - st) = o by (clear hl hk hks he hs h2; grind)] at this
      exact this.symm
  | cons c r ih =>
    intro k e s hr hk hs ho he
    have hk1 : k < x.cps.toList.length := by
      apply Nat.lt_of_not_le; intro q
      rw [List.drop_of_length_le q] at hr; cases hr
    have hr' : x.cps.toList.drop (k + 1) = r := by
      rw [List.drop_eq_getElem_cons hk1] at hr
      exact (List.cons.inj hr).2
    obtain ⟨st, op, res⟩ := s
    have hs : st ≤ k := hs
    -- a sign that is kept as it was
    have step : ∀ (e' : Bool), escEnd e' r = false → (∀ v : List Nat, stripM e none (c :: r) = c :: stripM e' none r) → (∀ p : List Nat, stripM e (some p) (c :: r) = stripM e' (some (p ++ [c])) r) →
        flatS (partsOf x ((escF (k + 1) e' r).foldl (stStep x) ⟨st, op, res⟩)) = flatS res ++ stripR x.cps.toList st op k e (c :: r) := fun e' h1 h2 h3 => by
      have := ih (k + 1) e' ⟨st, op, res⟩ hr' (by (clear hk he hs h1; lia)) (by show st ≤ _; (clear hl hk he hk1 h1; lia)) (fun o q => by have := ho o q; exact ⟨this.1, by (clear hl hk he hk1 hs h1; lia)⟩) h1
      rw [this]
      cases op with
      | none =>
        show flatS res ++ ((x.cps.toList.drop st).take (k + 1 - st) ++ _) = flatS res ++ ((x.cps.toList.drop st).take (k - st) ++ stripM e none (c :: r))
        rw [take_succ' hr st hs, h2 [], List.append_assoc]; rfl
      | some o =>
        have := (ho o rfl).2
        show flatS res ++ (_ ++ stripM e' (some ((x.cps.toList.drop o).take (k + 1 - o))) r) = flatS res ++ (_ ++ stripM e (some ((x.cps.toList.drop o).take (k - o))) (c :: r))
        rw [take_succ' hr o (by (clear hl hk he hk1 h1 hs; lia)), h3]
    cases e with
    | true =>
      have e1 : escF k true (c :: r) = (k, [92, c]) :: escF (k + 1) false r := rfl
      have e2 : stStep x ⟨st, op, res⟩ (k, [92, c]) = ⟨st, op, res⟩ := by unfold stStep; rw [if_neg (by simp)]
      rw [e1, List.foldl_cons, e2]
      exact step false he (fun zz => rfl) (fun zz => rfl)
    | false =>
      by_cases h92 : c = 92
      · have e1 : escF k false (c :: r) = escF (k + 1) true r := if_pos h92
        have he : escEnd (decide (c = 92)) r = false := he
        rw [decide_eq_true h92] at he
        rw [e1]
        exact step true he (fun zz => if_pos h92) (fun zz => if_pos h92)
      · have e1 : escF k false (c :: r) = (k, [c]) :: escF (k + 1) false r := if_neg h92
        have he : escEnd (decide (c = 92)) r = false := he
        rw [decide_eq_false h92] at he
        rw [e1, List.foldl_cons]
        by_cases h34 : c = 34
        · subst h34
          cases op with
          | none =>
            have e2 : stStep x ⟨st, none, res⟩ (k, [34]) = ⟨st, some k, res⟩ := rfl
            rw [e2]
            have := ih (k + 1) false ⟨st, some k, res⟩ hr' (by (clear hk he h92 hs; lia)) (by show st ≤ _; (clear hl hk hk1 he h92 hs; lia)) (fun o q => by cases q; exact ⟨hs, by (clear hl hk hk1 he h92 hs; lia)⟩) he
            rw [this]
            show flatS res ++ (_ ++ stripM false (some ((x.cps.toList.drop k).take (k + 1 - k))) r) = flatS res ++ (_ ++ stripM false (some [34]) r)
            rw [hr, show k + 1 - k = 1 by (clear hl hk hk1 he h92 hs; lia)]; rfl
          | some o =>
            obtain ⟨h1, h2⟩ := ho o rfl
            have h1 : st ≤ o := h1
            have e2 : stStep x ⟨st, some o, res⟩ (k, [34]) = ⟨k + 1, none, if st = o then res else res ++ [Txt.slice x (some (st : Int)) (some (o : Int))]⟩ := rfl
            rw [e2]
            have := ih (k + 1) false ⟨k + 1, none, if st = o then res else res ++ [Txt.slice x (some (st : Int)) (some (o : Int))]⟩ hr' (by (clear hk he h92 hs h2 h1; lia)) (by show k + 1 ≤ _; (clear hl hk hk1 he h92 hs h2 h1; lia)) (fun o q => by cases q) he
            rw [this]
            show flatS (if st = o then res else res ++ [Txt.slice x (some (st : Int)) (some (o : Int))]) ++ ((x.cps.toList.drop (k + 1)).take (k + 1 - (k + 1)) ++ stripM false none r) = flatS res ++ (_ ++ stripM false none r)
            rw [show k + 1 - (k + 1) = 0 by (clear hl hk hk1 he h92 hs h2 h1; lia), List.take_zero, List.nil_append]
            by_cases hq : st = o
            · rw [if_pos hq, hq, show o - o = 0 by (clear hl hk hk1 he h92 hs h2 h1 hq; lia), List.take_zero, List.nil_append]
            · rw [if_neg hq, flatS_app, List.append_assoc]
              congr 1
              show ((Txt.slice x (some (st : Int)) (some (o : Int))).cps.toList ++ []) ++ _ = _
              rw [sl_nat x st o h1, List.append_nil]
        · have e2 : stStep x ⟨st, op, res⟩ (k, [c]) = ⟨st, op, res⟩ := by unfold stStep; rw [if_neg (by simpa using h34)]
          rw [e2]
          exact step false he (fun zz => (if_neg h92).trans (if_neg h34)) (fun zz => (if_neg h92).trans (if_neg h34))
theorem strip_all (x : Str) (he : escEnd false x.cps.toList = false) : flatS (stParts x) = stripM false none x.cps.toList := by
  have := strip_parts x x.cps.toList 0 false ⟨0, none, []⟩ rfl (Nat.zero_le _) (Nat.le_refl _) (fun o q => by cases q) he
  exact this
end Mine
/-! Q3 -/
namespace Mine
open PySem PySem.W PySem.Spec PySem.Calls PyProof.Rows PySem.SeqAt

noncomputable def clean : Bool → List Nat → Bool
  | e, [] => !e
  | true, _ :: r => clean false r
  | false, c :: r => if c = 92 then clean true r else if c = 34 then false else clean false r
theorem clean_cons (c : Nat) (r : List Nat) : clean false (c :: r) = if c = 92 then clean true r else if c = 34 then false else clean false r := rfl
theorem strip_none : ∀ (u v : List Nat) (e : Bool), clean e u = true → stripM e none (u ++ v) = u ++ stripM false none v
  | [], v, e, h => by cases e; rfl; cases h
  | c :: u, v, true, h => by
    show c :: stripM false none (u ++ v) = _
    rw [strip_none u v false h]; rfl
  | c :: u, v, false, h => by
    show (if c = 92 then c :: stripM true none (u ++ v) else if c = 34 then stripM false (some [34]) (u ++ v) else c :: stripM false none (u ++ v)) = _
    rw [clean_cons] at h
    by_cases h1 : c = 92
    · rw [if_pos h1] at h ⊢; rw [strip_none u v true h]; rfl
    · rw [if_neg h1] at h ⊢
      by_cases h2 : c = 34
      · rw [if_pos h2] at h; cases h
      · rw [if_neg h2] at h ⊢; rw [strip_none u v false h]; rfl
theorem strip_some : ∀ (u v p : List Nat) (e : Bool), clean e u = true → stripM e (some p) (u ++ v) = stripM false (some (p ++ u)) v
  | [], v, p, e, h => by cases e; rw [List.append_nil]; rfl; cases h
  | c :: u, v, p, true, h => by
    show stripM false (some (p ++ [c])) (u ++ v) = _
    rw [strip_some u v _ false h, List.append_assoc]; rfl
  | c :: u, v, p, false, h => by
    show (if c = 92 then stripM true (some (p ++ [c])) (u ++ v) else if c = 34 then stripM false none (u ++ v) else stripM false (some (p ++ [c])) (u ++ v)) = _
    rw [clean_cons] at h
    by_cases h1 : c = 92
    · rw [if_pos h1] at h ⊢; rw [strip_some u v _ true h, List.append_assoc]; rfl
    · rw [if_neg h1] at h ⊢
      by_cases h2 : c = 34
      · rw [if_pos h2] at h; cases h
      · rw [if_neg h2] at h ⊢; rw [strip_some u v _ false h, List.append_assoc]; rfl
theorem esc_app : ∀ (u v : List Nat) (e : Bool), escEnd e (u ++ v) = escEnd (escEnd e u) v
  | [], v, e => by cases e <;> rfl
  | c :: u, v, true => esc_app u v false
  | c :: u, v, false => esc_app u v _
theorem clean_esc : ∀ (u : List Nat) (e : Bool), clean e u = true → escEnd e u = false
  | [], e, h => by cases e; rfl; cases h
  | c :: u, true, h => clean_esc u false h
  | c :: u, false, h => by
    show escEnd (decide (c = 92)) u = false
    rw [clean_cons] at h
    by_cases h1 : c = 92
    · rw [if_pos h1] at h; rw [decide_eq_true h1]; exact clean_esc u true h
    · rw [if_neg h1] at h
      by_cases h2 : c = 34
      · rw [if_pos h2] at h; cases h
      · rw [if_neg h2] at h; rw [decide_eq_false h1]; exact clean_esc u false h
theorem clean_dots (n : Nat) (u : List Nat) (h : clean false u = true) : clean false (List.replicate n 46 ++ u) = true := by
  induction n with
  | zero => exact h
  | succ n ih => rw [List.replicate_succ]; exact ih
theorem clean_crlf : ∀ (u : List Nat) (e : Bool), clean e u = true → clean e (u ++ [13, 10]) = true
  | [], e, h => by cases e; rfl; cases h
  | c :: u, true, h => clean_crlf u false h
  | c :: u, false, h => by
    rw [clean_cons] at h
    rw [List.cons_append, clean_cons]
    by_cases h1 : c = 92
    · rw [if_pos h1] at h ⊢; exact clean_crlf u true h
    · rw [if_neg h1] at h ⊢
      by_cases h2 : c = 34
      · rw [if_pos h2] at h; cases h
      · rw [if_neg h2] at h ⊢; exact clean_crlf u false h

/-! ## the reading, sign by sign -/
noncomputable def one (c : Nat) : List Int := if c = 46 then [23] else if c = 42 then [16] else if c = 43 then [14] else if c = 45 then [15] else if c = 59 then [13] else []
noncomputable def rdF : Nat → List Nat → List Int
  | _, [] => []
  | k + 1, _ :: r => rdF k r
  | 0, c :: r => if c = 46 ∧ r.take 2 = [46, 46] then 52 :: rdF 2 r else if c = 42 ∧ r.take 1 = [42] then 35 :: rdF 1 r else one c ++ rdF 0 r
noncomputable def rd (l : List Nat) : List Int := rdF 0 l
theorem rd_cons (c : Nat) (r : List Nat) : rd (c :: r) = if c = 46 ∧ r.take 2 = [46, 46] then 52 :: rdF 2 r else if c = 42 ∧ r.take 1 = [42] then 35 :: rdF 1 r else one c ++ rd r := rfl
theorem rd_next {c : Nat} {r : List Nat} (h1 : ¬ (c = 46 ∧ r.take 2 = [46, 46])) (h2 : ¬ (c = 42 ∧ r.take 1 = [42])) : rd (c :: r) = one c ++ rd r := by
  rw [rd_cons, if_neg h1, if_neg h2]
noncomputable def signs : List Nat := [46, 42, 43, 45, 59, 34, 92, 12, 13, 10]
noncomputable def tokL (l : List Nat) : Option Int := tokF ⟨l.toArray⟩
noncomputable def eqL : List Nat → List Nat → Bool
  | [], [] => true
  | a :: l, b :: m => Nat.beq a b && eqL l m
  | _, _ => false
theorem eqL_iff : ∀ l m : List Nat, eqL l m = true ↔ l = m
  | [], [] => ⟨fun zz => rfl, fun zz => rfl⟩
  | [], _ :: _ => ⟨nofun, nofun⟩
  | _ :: _, [] => ⟨nofun, nofun⟩
  | a :: l, b :: m => by
    show (Nat.beq a b && eqL l m) = true ↔ _
    rw [Bool.and_eq_true, eqL_iff l m, List.cons.injEq]
    exact ⟨fun q => ⟨Nat.eq_of_beq_eq_true q.1, q.2⟩, fun q => ⟨by rw [q.1]; exact Nat.beq_refl b, q.2⟩⟩
noncomputable def lkL : List (List Nat × Int) → List Nat → Option Int
  | [], _ => none
  | p :: r, k => match eqL k p.1 with
    | true => some p.2
    | false => lkL r k
theorem lkL_cons (p : List Nat × Int) (r : List (List Nat × Int)) (k : List Nat) : lkL (p :: r) k = match eqL k p.1 with
    | true => some p.2
    | false => lkL r k := rfl
noncomputable def codesOf (t : List (Str × Int)) : List (List Nat × Int) := t.map fun p => (p.1.cps.toList, p.2)
theorem lk_codes : ∀ (t : List (Str × Int)) (l : List Nat), t.lookup ⟨l.toArray⟩ = lkL (codesOf t) l
  | [], _ => rfl
  | (x, i) :: r, l => by
    show List.lookup (⟨l.toArray⟩ : Str) ((x, i) :: r) = (match eqL l x.cps.toList with | true => some i | false => lkL (codesOf r) l)
    rw [List.lookup_cons, lk_codes r l]
    have e : ((⟨l.toArray⟩ : Str) == x) = eqL l x.cps.toList := by
      rw [Bool.eq_iff_iff, beq_iff_eq, eqL_iff]
      refine ⟨fun q => by rw [← q], fun q => ?_⟩
      apply PySem.Str.ext'
      show l.toArray = x.cps
      rw [q]
    rw [e]
    cases eqL l x.cps.toList <;> rfl
noncomputable def tokCodes : List (List Nat × Int) := [([33], 54), ([33, 61], 28), ([37], 24), ([37, 61], 40), ([38], 19), ([38, 61], 41), ([40], 7), ([41], 8),
  ([42], 16), ([42, 42], 35), ([42, 42, 61], 46), ([42, 61], 38), ([43], 14), ([43, 61], 36), ([44], 12), ([45], 15),
  ([45, 61], 37), ([45, 62], 51), ([46], 23), ([46, 46, 46], 52), ([47], 17), ([47, 47], 47), ([47, 47, 61], 48), ([47, 61], 39),
  ([58], 11), ([58, 61], 53), ([59], 13), ([60], 20), ([60, 60], 33), ([60, 60, 61], 44), ([60, 61], 29), ([61], 22),
  ([61, 61], 27), ([62], 21), ([62, 61], 30), ([62, 62], 34), ([62, 62, 61], 45), ([64], 49), ([64, 61], 50), ([91], 9),
  ([93], 10), ([94], 32), ([94, 61], 43), ([123], 25), ([124], 18), ([124, 61], 42), ([125], 26), ([126], 31)]
theorem tok_codes : codesOf tokens = tokCodes := by decide +kernel
theorem tokL_lk (l : List Nat) : tokL l = lkL tokCodes l := by
  rw [← tok_codes, ← lk_codes]; rfl
theorem win1 : ∀ c ∈ signs, (tokL [c]).toList = one c := by
  simp only [tokL_lk]
  decide +kernel
theorem win2 : ∀ c ∈ signs, ∀ d ∈ signs, tokL [c, d] = if c = 42 ∧ d = 42 then some 35 else none := by
  simp only [tokL_lk]
  decide +kernel
theorem lk_len (k : List Nat) : ∀ t : List (List Nat × Int), lkL t k = lkL (t.filter fun p => Nat.beq p.1.length k.length) k
  | [] => rfl
  | p :: r => by
    rw [List.filter_cons]
    cases q : Nat.beq p.1.length k.length with
    | true =>
      rw [if_pos rfl, lkL_cons, lkL_cons, lk_len k r]
    | false =>
      rw [if_neg Bool.false_ne_true, lkL_cons, lk_len k r]
      cases e : eqL k p.1 with
      | false => rfl
      | true => rw [(eqL_iff _ _).mp e, Nat.beq_refl] at q; cases q
noncomputable def tok3 : List (List Nat × Int) := [([42, 42, 61], 46), ([46, 46, 46], 52), ([47, 47, 61], 48), ([60, 60, 61], 44), ([62, 62, 61], 45)]
theorem tok_3 : (tokCodes.filter fun p => Nat.beq p.1.length 3) = tok3 := rfl
theorem tokL_3 (c d e : Nat) : tokL [c, d, e] = lkL tok3 [c, d, e] := by
  rw [tokL_lk, lk_len]; exact congrArg (fun t => lkL t [c, d, e]) tok_3
noncomputable def no3 (l : List Nat) : Bool := (lkL tok3 l).isNone
theorem win3_no : (signs.all fun c => signs.all fun d => signs.all fun e => (Nat.beq c 46 && (Nat.beq d 46 && Nat.beq e 46)) || no3 [c, d, e]) = true := by decide +kernel
theorem win3 : ∀ c ∈ signs, ∀ d ∈ signs, ∀ e ∈ signs, tokL [c, d, e] = if c = 46 ∧ d = 46 ∧ e = 46 then some 52 else none := by
  intro c hc d hd e he
  rw [tokL_3]
  by_cases h : c = 46 ∧ d = 46 ∧ e = 46
  · rw [if_pos h, h.1, h.2.1, h.2.2]; rfl
  · rw [if_neg h]
    have := List.all_eq_true.mp (List.all_eq_true.mp (List.all_eq_true.mp win3_no c hc) d hd) e he
    rcases Bool.or_eq_true_iff.mp this with q | q
    · simp only [Bool.and_eq_true] at q
      exact absurd ⟨Nat.eq_of_beq_eq_true q.1, Nat.eq_of_beq_eq_true q.2.1, Nat.eq_of_beq_eq_true q.2.2⟩ h
    · exact Option.isNone_iff_eq_none.mp q
noncomputable def sizeL (l : List Nat) : Nat := if (tokL (l.take 3)).isSome then 3 else if (tokL (l.take 2)).isSome then 2 else 1
noncomputable def readL : Nat → List Nat → List Int
  | 0, _ => []
  | f + 1, l => if l = [] then [] else (tokL (l.take (sizeL l))).toList ++ readL f (l.drop (sizeL l))
theorem readL_cons (f : Nat) (c : Nat) (l : List Nat) : readL (f + 1) (c :: l) = (tokL ((c :: l).take (sizeL (c :: l)))).toList ++ readL f ((c :: l).drop (sizeL (c :: l))) := if_neg nofun
theorem sizeL_pos (l : List Nat) : 0 < sizeL l := by
  unfold sizeL
  by_cases h : (tokL (l.take 3)).isSome
  · rw [if_pos h]; decide
  · rw [if_neg h]
    by_cases h : (tokL (l.take 2)).isSome
    · rw [if_pos h]; decide
    · rw [if_neg h]; decide
theorem tokAt_L (text : Str) (p n : Nat) : tokAt text p n = tokL ((text.cps.toList.drop p).take n) := by
  unfold tokAt tokL
  congr 1
  apply PySem.Str.ext'
  apply Array.toList_inj.mp
  rw [show ((p : Int) + (n : Int)) = ((p + n : Nat) : Int) from rfl, sl_nat text p (p + n) (Nat.le_add_right p n), Nat.add_sub_cancel_left]
theorem sizeAt_L (text : Str) (p : Nat) : sizeAt text p = sizeL (text.cps.toList.drop p) := by
  unfold sizeAt sizeL
  rw [tokAt_L, tokAt_L]
theorem readFrom_L (text : Str) : ∀ (f p : Nat) (told : List Int), readFrom text f p told = told ++ readL f (text.cps.toList.drop p)
  | 0, p, told => (List.append_nil told).symm
  | f + 1, p, told => by
    have hl : text.length = text.cps.toList.length := Array.length_toList.symm
    show (if p < text.length then _ else _) = told ++ (if _ = [] then [] else _)
    by_cases h : p < text.length
    · rw [if_pos h, if_neg (by rw [List.drop_eq_nil_iff, ← hl]; exact Nat.not_le.mpr h), readFrom_L text f, sizeAt_L, tokAt_L, List.drop_drop, List.append_assoc]
    · rw [if_neg h, if_pos (List.drop_of_length_le (hl ▸ Nat.le_of_not_lt h)), List.append_nil]
end Mine
/-! Q4 -/
namespace Mine
open PySem PySem.W PySem.Spec PySem.Calls PyProof.Rows PySem.SeqAt

theorem rd_one {c : Nat} {r : List Nat} (h1 : c ≠ 46) (h2 : c ≠ 42) : rd (c :: r) = one c ++ rd r := rd_next (fun q => h1 q.1) (fun q => h2 q.1)
theorem rd_star {c : Nat} {r : List Nat} (h : c ≠ 42) : rd (42 :: c :: r) = 16 :: rd (c :: r) := rd_next (fun q => absurd q.1 (by decide)) (fun q => h (List.cons.inj q.2).1)
theorem rd_dots {v : List Nat} (hv : ∀ t, v ≠ 46 :: t) : rd v = rd v ∧ rd (46 :: v) = 23 :: rd v ∧ rd (46 :: 46 :: v) = 23 :: 23 :: rd v := by
  have t2 : ∀ k l, v.take (k + 1) ≠ 46 :: l := fun k l => by
    cases v with
    | nil => exact nofun
    | cons a t => exact fun q => hv t (by rw [(List.cons.inj q).1])
  have h1 : rd (46 :: v) = 23 :: rd v := rd_next (fun q => t2 1 _ q.2) (fun q => absurd q.1 (by decide))
  exact ⟨rfl, h1, (rd_next (c := 46) (r := 46 :: v) (fun q => t2 0 _ (List.cons.inj (show 46 :: v.take 1 = [46, 46] from q.2)).2) (fun q => absurd q.1 (by decide))).trans (congrArg (23 :: ·) h1)⟩
theorem rd_run {v : List Nat} (hv : ∀ t, v ≠ 46 :: t) : ∀ n, n ≤ 5 → rd (List.replicate n 46 ++ v) = List.replicate (n / 3) 52 ++ List.replicate (n % 3) 23 ++ rd v
  | 0, _ => rfl
  | 1, _ => (rd_dots hv).2.1
  | 2, _ => (rd_dots hv).2.2
  | 3, _ => rfl
  | 4, _ => congrArg (52 :: ·) (rd_dots hv).2.1
  | 5, _ => congrArg (52 :: ·) (rd_dots hv).2.2
  | n + 6, h => absurd h (by lia)
theorem readL_nil (f : Nat) : readL f [] = [] := by
  cases f with
  | zero => rfl
  | succ f => rw [readL, if_pos rfl]
theorem readL_rd : ∀ (f : Nat) (l : List Nat), l.length ≤ f → (∀ c ∈ l, c ∈ signs) → readL f l = rd l := by
  intro f
  induction f with
  | zero =>
    intro l h _
    rw [List.length_eq_zero_iff.mp (Nat.le_zero.mp h)]; rfl
  | succ f ih =>
    intro l h hs
    cases l with
    | nil => rfl
    | cons c l =>
      have h := Nat.le_of_succ_le_succ h
      have hc := hs c (.head _)
      have hr : ∀ x ∈ l, x ∈ signs := fun x hx => hs x (.tail _ hx)
      rw [readL_cons]
      have w1 := win1 c hc
      have one_ : ∀ {n}, n = 1 → ¬ (c = 46 ∧ l.take 2 = [46, 46]) → ¬ (c = 42 ∧ l.take 1 = [42]) → (tokL ((c :: l).take n)).toList ++ readL f ((c :: l).drop n) = rd (c :: l) := fun {n} e h1 h2 => by
        rw [e, rd_next h1 h2, ← ih l h hr, ← w1]; rfl
      cases l with
      | nil =>
        have e : ∀ n, 0 < n → (tokL (([c] : List Nat).take n)).toList ++ readL f (([c] : List Nat).drop n) = one c := fun n hn => by
          cases n with
          | zero => exact absurd hn (Nat.lt_irrefl 0)
          | succ n =>
            show (tokL (c :: List.take n [])).toList ++ readL f (List.drop n []) = _
            rw [List.take_nil, List.drop_nil, w1, readL_nil, List.append_nil]
        rw [e _ (sizeL_pos _), rd_next (c := c) (r := []) (fun q => (nofun : ([] : List Nat) ≠ [46, 46]) q.2) (fun q => (nofun : ([] : List Nat) ≠ [42]) q.2)]; exact (List.append_nil _).symm
      | cons d l =>
        have w2 := win2 c hc d (hr d (.head _))
        cases l with
        | nil =>
          have sz : ∀ t, tokL [c, d] = t → sizeL [c, d] = if t.isSome then 3 else if t.isSome then 2 else 1 := fun t e => by rw [← e]; rfl
          by_cases q : c = 42 ∧ d = 42
          · rw [if_pos q] at w2
            rw [sz _ w2]
            show (tokL [c, d]).toList ++ readL f [] = _
            rw [w2, q.1, q.2, readL_nil]; rfl
          · rw [if_neg q] at w2
            exact one_ (sz _ w2) (fun q => nomatch (List.cons.inj q.2).2) (fun r => q ⟨r.1, (List.cons.inj r.2).1⟩)
        | cons e l =>
          have w3 := win3 c hc d (hr d (.head _)) e (hr e (.tail _ (.head _)))
          have sz : ∀ t u, tokL [c, d, e] = t → tokL [c, d] = u → sizeL (c :: d :: e :: l) = if t.isSome then 3 else if u.isSome then 2 else 1 := fun t u e1 e2 => by rw [← e1, ← e2]; rfl
          by_cases q3 : c = 46 ∧ d = 46 ∧ e = 46
          · rw [if_pos q3] at w3
            rw [sz _ _ w3 rfl]
            show (tokL [c, d, e]).toList ++ readL f l = _
            rw [w3, ih l (Nat.le_trans (Nat.le_add_right _ 2) h) fun x hx => hr x (.tail _ (.tail _ hx)), q3.1, q3.2.1, q3.2.2]
            rfl
          · rw [if_neg q3] at w3
            by_cases q : c = 42 ∧ d = 42
            · rw [if_pos q] at w2
              rw [sz _ _ w3 w2]
              show (tokL [c, d]).toList ++ readL f (e :: l) = _
              rw [w2, ih (e :: l) (Nat.le_trans (Nat.le_succ _) h) fun x hx => hr x (.tail _ hx), q.1, q.2]
              rfl
            · rw [if_neg q] at w2
              exact one_ (sz _ _ w3 w2) (fun r => q3 ⟨r.1, (List.cons.inj r.2).1, (List.cons.inj (List.cons.inj r.2).2).1⟩) (fun r => q ⟨r.1, (List.cons.inj r.2).1⟩)
theorem readOf_rd (text : Str) (h : ∀ c ∈ text.cps.toList, c ∈ signs) : readOf text = rd text.cps.toList := by
  unfold readOf
  rw [readFrom_L, List.nil_append, List.drop_zero, readL_rd text.length _ (Nat.le_of_eq Array.length_toList) h]

/-! ## the pages -/
noncomputable def IsPiece (w : Str) : Prop := ∃ n, n < 5 ∧ w = pieceN n
theorem piece_is (c : Int) : IsPiece (pieceOf c) := ⟨_, by have := fmod_lt (a := c) (b := 5) (by decide); omega, rfl⟩
theorem five {P : Nat → Prop} (h0 : P 0) (h1 : P 1) (h2 : P 2) (h3 : P 3) (h4 : P 4) : ∀ n, n < 5 → P n
  | 0, _ => h0
  | 1, _ => h1
  | 2, _ => h2
  | 3, _ => h3
  | 4, _ => h4
  | n + 5, h => absurd h (by lia)
/-- a row that stands in no pair of marks, its words and what they tell -/
structure RowW (w : Str) : Prop where
  word : Word w
  clean : clean false w.cps.toList = true
  mark : ∃ l, markL.lookup (Txt.slice w none (some 1)) = some l
  len : w.length ≤ 10
  read : ∀ v, rd (w.cps.toList ++ (13 :: 10 :: v)) = (markL.lookup (Txt.slice w none (some 1))).getD [] ++ rd v
inductive PG : Nat → List Ent → Prop
  | nil0 : PG 0 []
  | nil2 : PG 2 []
  | row {m : Nat} {d : Int} {w : Str} {r : List Ent} : m ≠ 1 → 0 ≤ d → d ≤ 4 → RowW w → PG m r → PG m ((d, w, 0) :: r)
  | lone {r : List Ent} : PG 2 r → PG 0 ((0, "\"", 0) :: r)
  | opn {p : Str} {r : List Ent} : IsPiece p → PG 1 r → PG 0 ((0, p ++ "\"", 1) :: r)
  | hid {d : Int} {w : Str} {r : List Ent} : 0 ≤ d → d ≤ 4 → RowW w → PG 1 r → PG 1 ((d, w, 2) :: r)
  | cls {p : Str} {r : List Ent} : IsPiece p → PG 0 r → PG 1 ((0, p ++ "\"", 3) :: r)
noncomputable def wordB (l : List Nat) : Bool := l.all fun c => c == 42 || c == 43 || c == 45 || c == 59 || c == 34 || c == 92 || c == 12
theorem word_of {w : Str} (h : wordB w.cps.toList = true) : Word w := by
  intro c hc
  have := List.all_eq_true.mp h c hc
  simp only [Bool.or_eq_true, beq_iff_eq] at this
  (clear h; lia)
theorem roww_star {p : Str} (h : IsPiece p) : RowW ("*" ++ p) := by
  obtain ⟨n, hn, rfl⟩ := h
  revert n
  exact five ⟨word_of (by decide), by decide, ⟨_, rfl⟩, by decide, fun v => rfl⟩ ⟨word_of (by decide), by decide, ⟨_, rfl⟩, by decide, fun v => rfl⟩ ⟨word_of (by decide), by decide, ⟨_, rfl⟩, by decide, fun v => rfl⟩ ⟨word_of (by decide), by decide, ⟨_, rfl⟩, by decide, fun v => rfl⟩ ⟨word_of (by decide), by decide, ⟨_, rfl⟩, by decide, fun v => rfl⟩
theorem roww_1 : RowW "*" := ⟨word_of (by decide), by decide, ⟨_, rfl⟩, by decide, fun v => rfl⟩
theorem roww_semi : RowW ";" := ⟨word_of (by decide), by decide, ⟨_, rfl⟩, by decide, fun v => rfl⟩
theorem roww_plus : RowW "+" := ⟨word_of (by decide), by decide, ⟨_, rfl⟩, by decide, fun v => rfl⟩
theorem roww_minus : RowW "-" := ⟨word_of (by decide), by decide, ⟨_, rfl⟩, by decide, fun v => rfl⟩
theorem roww_nil : RowW "" := ⟨word_of (by decide), by decide, ⟨_, rfl⟩, by decide, fun v => rfl⟩
end Mine
/-! Q5 -/
namespace Mine
open PySem PySem.W PySem.Spec PySem.Calls PyProof.Rows PySem.SeqAt

/-- a word that opens or closes a pair of marks -/
structure QuoW (p : Str) : Prop where
  word : Word (p ++ "\"")
  clean : clean false p.cps.toList = true
  len : (p ++ "\"").length ≤ 10
  cut : Txt.slice (p ++ "\"") none (some (-1)) = p
  read : ∀ v, rd (p.cps.toList ++ v) = rd v
  sg : ∀ c ∈ p.cps.toList, c ∈ signs
  lst : (p ++ "\"").cps.toList = p.cps.toList ++ [34]
theorem quow {p : Str} (h : IsPiece p) : QuoW p := by
  obtain ⟨n, hn, rfl⟩ := h
  revert n
  exact five ⟨word_of (by decide), by decide, by decide, by rfl, fun v => rfl, by decide, rfl⟩ ⟨word_of (by decide), by decide, by decide, by rfl, fun v => rfl, by decide, rfl⟩ ⟨word_of (by decide), by decide, by decide, by rfl, fun v => rfl, by decide, rfl⟩
    ⟨word_of (by decide), by decide, by decide, by rfl, fun v => rfl, by decide, rfl⟩ ⟨word_of (by decide), by decide, by decide, by rfl, fun v => rfl, by decide, rfl⟩
theorem pg_ent {m : Nat} {page : List Ent} (h : PG m page) : ∀ e ∈ page, EntL e ∧ EntOk e := by
  have z4 : (0 : Int) ≤ 4 := by decide
  induction h with
  | nil0 => exact nofun
  | nil2 => exact nofun
  | row _ h0 h4 hw _ ih =>
    intro e he
    rcases List.mem_cons.mp he with rfl | he
    · exact ⟨⟨h0, h4, hw.word⟩, h0, h4, hw.len, fun zz => hw.mark⟩
    · exact ih e he
  | lone _ ih =>
    intro e he
    rcases List.mem_cons.mp he with rfl | he
    · exact ⟨⟨by decide, by decide, word_of (by decide)⟩, by decide, by decide, by decide, fun zz => ⟨_, rfl⟩⟩
    · exact ih e he
  | opn hp _ ih =>
    intro e he
    rcases List.mem_cons.mp he with rfl | he
    · exact ⟨⟨Int.le_refl 0, z4, (quow hp).word⟩, Int.le_refl 0, z4, (quow hp).len, fun q => by cases q⟩
    · exact ih e he
  | hid h0 h4 hw _ ih =>
    intro e he
    rcases List.mem_cons.mp he with rfl | he
    · exact ⟨⟨h0, h4, hw.word⟩, h0, h4, hw.len, fun q => by cases q⟩
    · exact ih e he
  | cls hp _ ih =>
    intro e he
    rcases List.mem_cons.mp he with rfl | he
    · exact ⟨⟨Int.le_refl 0, z4, (quow hp).word⟩, Int.le_refl 0, z4, (quow hp).len, fun q => by cases q⟩
    · exact ih e he
theorem left_R {m : Nat} {page : List Ent} (h : PG m page) : ∀ s : TS, (page.foldl tsStep s).left.cps.toList = s.left.cps.toList ++ leftR page := by
  have row0 : ∀ (d : Int) (w : Str) (r : List Ent) (s : TS), 0 ≤ d → d ≤ 4 → (∀ s : TS, (r.foldl tsStep s).left.cps.toList = s.left.cps.toList ++ leftR r) → (((d, w, 0) :: r : List Ent).foldl tsStep s).left.cps.toList = s.left.cps.toList ++ leftR ((d, w, 0) :: r) := fun d w r s h0 h4 ih => by
    have m := more_le h0 h4
    rw [List.foldl_cons, ih]
    show (s.left ++ (lineOf (moreOf d) w ++ "\r\n")).cps.toList ++ leftR r = s.left.cps.toList ++ ((lineL (moreOf d) w ++ [13, 10]) ++ leftR r)
    rw [app_l, app_l, line_l m.1 m.2, List.append_assoc]; rfl
  induction h with
  | nil0 => intro s; simp [leftR]
  | nil2 => intro s; simp [leftR]
  | row _ h0 h4 hw _ ih => exact fun s => row0 _ _ _ s h0 h4 ih
  | lone _ ih => exact fun s => row0 _ _ _ s (by decide) (by decide) ih
  | @opn p r hp _ ih =>
    intro s
    rw [List.foldl_cons, ih]
    show (s.left ++ Txt.slice (p ++ "\"") none (some (-1))).cps.toList ++ leftR r = s.left.cps.toList ++ ((p ++ "\"").cps.toList.dropLast ++ leftR r)
    rw [(quow hp).cut, (quow hp).lst, List.dropLast_concat, app_l, List.append_assoc]
  | hid h0 h4 hw _ ih => intro s; rw [List.foldl_cons, ih]; rfl
  | @cls p r hp _ ih =>
    intro s
    rw [List.foldl_cons, ih]
    show (s.left ++ "\r\n").cps.toList ++ leftR r = s.left.cps.toList ++ ([13, 10] ++ leftR r)
    rw [app_l, List.append_assoc]; rfl
theorem line_clean {d : Int} {w : Str} (hw : RowW w) : clean false (lineL d w) = true := clean_dots _ _ hw.clean

/-- what is left of the marks' pairs -/
theorem strip_page {m : Nat} {page : List Ent} (h : PG m page) : (m = 0 → stripM false none (dueR page ++ [46, 46]) = leftR page ++ [46, 46]) ∧ (m = 1 → ∀ p, stripM false (some p) (dueR page ++ [46, 46]) = leftR page ++ [46, 46]) ∧ (m = 2 → ∀ p, stripM false (some p) (dueR page ++ [46, 46]) = p ++ (leftR page ++ [46, 46])) := by
  induction h with
  | nil0 => exact ⟨fun zz => rfl, nofun, nofun⟩
  | nil2 => exact ⟨nofun, nofun, fun zz p => by show p ++ [46] ++ [46] = _; rw [List.append_assoc]; rfl⟩
  | @row m d w r hm h0 h4 hw _ ih =>
    have e1 : dueR ((d, w, 0) :: r) ++ [46, 46] = (lineL (moreOf d) w ++ [13, 10]) ++ (dueR r ++ [46, 46]) := by simp [dueR]
    have e2 : leftR ((d, w, 0) :: r) ++ [46, 46] = (lineL (moreOf d) w ++ [13, 10]) ++ (leftR r ++ [46, 46]) := by simp [leftR, leftE]
    have hc := clean_crlf _ _ (line_clean (d := moreOf d) hw)
    rw [e1, e2]
    refine ⟨fun q => ?_, fun q => absurd q hm, fun q p => ?_⟩
    · rw [strip_none _ _ _ hc, ih.1 q]
    · rw [strip_some _ _ _ _ hc, ih.2.2 q, List.append_assoc]
  | @lone r _ ih =>
    refine ⟨fun zz => ?_, nofun, nofun⟩
    show stripM false (some ([34] ++ [13] ++ [10])) (dueR r ++ [46, 46]) = _
    rw [ih.2.2 rfl]; rfl
  | @opn p r hp _ ih =>
    refine ⟨fun zz => ?_, nofun, nofun⟩
    have q := quow hp
    have e1 : dueR ((0, p ++ "\"", 1) :: r) ++ [46, 46] = p.cps.toList ++ (34 :: 13 :: 10 :: (dueR r ++ [46, 46])) := by
      show ((dotsL (moreOf 0) ++ (p ++ "\"").cps.toList) ++ (13 :: 10 :: dueR r)) ++ [46, 46] = _
      rw [q.lst, show dotsL (moreOf 0) = [] from rfl]; simp
    have e2 : leftR ((0, p ++ "\"", 1) :: r) ++ [46, 46] = p.cps.toList ++ (leftR r ++ [46, 46]) := by
      show ((p ++ "\"").cps.toList.dropLast ++ leftR r) ++ [46, 46] = _
      rw [q.lst, List.dropLast_concat, List.append_assoc]
    rw [e1, e2, strip_none _ _ _ q.clean]
    congr 1
    show stripM false (some ([34] ++ [13] ++ [10])) (dueR r ++ [46, 46]) = _
    exact ih.2.1 rfl _
  | @hid d w r h0 h4 hw _ ih =>
    refine ⟨nofun, fun zz p => ?_, nofun⟩
    have e1 : dueR ((d, w, 2) :: r) ++ [46, 46] = (lineL (moreOf d) w ++ [13, 10]) ++ (dueR r ++ [46, 46]) := by simp [dueR]
    rw [e1, strip_some _ _ _ _ (clean_crlf _ _ (line_clean (d := moreOf d) hw)), ih.2.1 rfl]; rfl
  | @cls p r hp _ ih =>
    refine ⟨nofun, fun zz pp => ?_, nofun⟩
    have q := quow hp
    have e1 : dueR ((0, p ++ "\"", 3) :: r) ++ [46, 46] = p.cps.toList ++ (34 :: 13 :: 10 :: (dueR r ++ [46, 46])) := by
      show ((dotsL (moreOf 0) ++ (p ++ "\"").cps.toList) ++ (13 :: 10 :: dueR r)) ++ [46, 46] = _
      rw [q.lst, show dotsL (moreOf 0) = [] from rfl]; simp
    rw [e1, strip_some _ _ _ _ q.clean]
    show 13 :: 10 :: stripM false none (dueR r ++ [46, 46]) = _
    rw [ih.1 rfl]; rfl
theorem esc_page {m : Nat} {page : List Ent} (h : PG m page) : escEnd false (dueR page ++ [46, 46]) = false := by
  have row0 : ∀ (d : Int) (w : Str) (s : Int) (r : List Ent), RowW w → escEnd false (dueR r ++ [46, 46]) = false → escEnd false (dueR ((d, w, s) :: r) ++ [46, 46]) = false := fun d w s r hw ih => by
    have e1 : dueR ((d, w, s) :: r) ++ [46, 46] = (lineL (moreOf d) w ++ [13, 10]) ++ (dueR r ++ [46, 46]) := by simp [dueR]
    rw [e1, esc_app, clean_esc _ _ (clean_crlf _ _ (line_clean hw))]; exact ih
  have quo0 : ∀ (p : Str) (s : Int) (r : List Ent), IsPiece p → escEnd false (dueR r ++ [46, 46]) = false → escEnd false (dueR ((0, p ++ "\"", s) :: r) ++ [46, 46]) = false := fun p s r hp ih => by
    have q := quow hp
    have e1 : dueR ((0, p ++ "\"", s) :: r) ++ [46, 46] = p.cps.toList ++ (34 :: 13 :: 10 :: (dueR r ++ [46, 46])) := by
      show ((dotsL (moreOf 0) ++ (p ++ "\"").cps.toList) ++ (13 :: 10 :: dueR r)) ++ [46, 46] = _
      rw [q.lst, show dotsL (moreOf 0) = [] from rfl]; simp
    rw [e1, esc_app, clean_esc _ _ q.clean]; exact ih
  induction h with
  | nil0 => rfl
  | nil2 => rfl
  | row _ _ _ hw _ ih => exact row0 _ _ _ _ hw ih
  | lone _ ih => exact ih
  | opn hp _ ih => exact quo0 _ _ _ hp ih
  | hid _ _ hw _ ih => exact row0 _ _ _ _ hw ih
  | cls hp _ ih => exact quo0 _ _ _ hp ih
theorem word_head {w : Str} (hw : Word w) (v : List Nat) : ∀ t, w.cps.toList ++ (13 :: 10 :: v) ≠ 46 :: t := by
  intro t q
  cases hl : w.cps.toList with
  | nil => rw [hl] at q; cases q
  | cons c l =>
    rw [hl] at q
    have := hw c (by rw [hl]; exact .head _)
    rw [(List.cons.inj q).1] at this
    lia
theorem dots_more {d : Int} (h0 : 0 ≤ d) (h4 : d ≤ 4) : ((moreOf d).fdiv 3).toNat = (moreOf d).toNat / 3 ∧ ((moreOf d).fmod 3).toNat = (moreOf d).toNat % 3 := by
  have : d = 0 ∨ d = 1 ∨ d = 2 ∨ d = 3 ∨ d = 4 := by lia
  rcases this with rfl | rfl | rfl | rfl | rfl <;> exact ⟨rfl, rfl⟩
/-- what is read of it -/
theorem read_page {m : Nat} {page : List Ent} (h : PG m page) : rd (leftR page ++ [46, 46]) = numsR page ++ [23, 23] := by
  induction h with
  | nil0 => rfl
  | nil2 => rfl
  | @row m d w r hm h0 h4 hw _ ih =>
    have e2 : leftR ((d, w, 0) :: r) ++ [46, 46] = List.replicate (moreOf d).toNat 46 ++ (w.cps.toList ++ (13 :: 10 :: (leftR r ++ [46, 46]))) := by simp [leftR, leftE, lineL, dotsL]
    have m := more_le h0 h4
    have dm := dots_more h0 h4
    rw [e2, rd_run (word_head hw.word _) _ (by (clear hm h0 h4; omega)), hw.read, ih]
    show _ = (numsE (d, w, 0) ++ numsR r) ++ [23, 23]
    unfold numsE
    rw [if_pos rfl, dm.1, dm.2]
    simp only [List.append_assoc]
  | @lone r _ ih =>
    show rd (34 :: 13 :: 10 :: (leftR r ++ [46, 46])) = _
    rw [rd_one (by decide) (by decide), rd_one (by decide) (by decide), rd_one (by decide) (by decide), ih]; rfl
  | @opn p r hp _ ih =>
    have q := quow hp
    have e2 : leftR ((0, p ++ "\"", 1) :: r) ++ [46, 46] = p.cps.toList ++ (leftR r ++ [46, 46]) := by
      show ((p ++ "\"").cps.toList.dropLast ++ leftR r) ++ [46, 46] = _
      rw [q.lst, List.dropLast_concat, List.append_assoc]
    rw [e2, q.read, ih]; rfl
  | hid _ _ _ _ ih => exact ih
  | @cls p r hp _ ih =>
    show rd (13 :: 10 :: (leftR r ++ [46, 46])) = _
    rw [rd_one (by decide) (by decide), rd_one (by decide) (by decide), ih]; rfl
theorem word_signs {w : Str} (hw : Word w) : ∀ c ∈ w.cps.toList, c ∈ signs := fun c hc => by
  rcases hw c hc with rfl | rfl | rfl | rfl | rfl | rfl | rfl <;> decide
theorem signs_page {m : Nat} {page : List Ent} (h : PG m page) : (∀ c ∈ leftR page, c ∈ signs) ∧ ∀ c ∈ dueR page, c ∈ signs := by
  have lin : ∀ (d : Int) (w : Str), Word w → ∀ c ∈ lineL d w, c ∈ signs := fun d w hw c hc => by
    rcases List.mem_append.mp hc with q | q
    · rw [List.eq_of_mem_replicate q]; decide
    · exact word_signs hw c q
  have due : ∀ (d : Int) (w : Str) (s : Int) (r : List Ent), Word w → (∀ c ∈ dueR r, c ∈ signs) → ∀ c ∈ dueR ((d, w, s) :: r), c ∈ signs := fun d w s r hw ih c hc => by
    rcases List.mem_append.mp hc with q | q
    · exact lin _ _ hw c q
    · rcases List.mem_cons.mp q with rfl | q
      · decide
      · rcases List.mem_cons.mp q with rfl | q
        · decide
        · exact ih c q
  have crlf : ∀ c ∈ ([13, 10] : List Nat), c ∈ signs := by decide
  have row0 : ∀ (d : Int) (w : Str) (r : List Ent), Word w → (∀ c ∈ leftR r, c ∈ signs) → ∀ c ∈ leftR ((d, w, 0) :: r), c ∈ signs := fun d w r hw ih c hc => by
    rcases List.mem_append.mp hc with q | q
    · rcases List.mem_append.mp (show c ∈ lineL (moreOf d) w ++ [13, 10] from q) with q | q
      · exact lin _ _ hw c q
      · exact crlf c q
    · exact ih c q
  induction h with
  | nil0 => exact ⟨nofun, nofun⟩
  | nil2 => exact ⟨nofun, nofun⟩
  | row _ _ _ hw _ ih => exact ⟨row0 _ _ _ hw.word ih.1, due _ _ _ _ hw.word ih.2⟩
  | lone _ ih => exact ⟨row0 _ _ _ (word_of (by decide)) ih.1, due _ _ _ _ (word_of (by decide)) ih.2⟩
  | @opn p r hp _ ih =>
    refine ⟨fun c hc => ?_, due _ _ _ _ (quow hp).word ih.2⟩
    rcases List.mem_append.mp (show c ∈ (p ++ "\"").cps.toList.dropLast ++ leftR r from hc) with q | q
    · rw [(quow hp).lst, List.dropLast_concat] at q; exact (quow hp).sg c q
    · exact ih.1 c q
  | hid _ _ hw _ ih => exact ⟨ih.1, due _ _ _ _ hw.word ih.2⟩
  | @cls p r hp _ ih =>
    refine ⟨fun c hc => ?_, due _ _ _ _ (quow hp).word ih.2⟩
    rcases List.mem_append.mp (show c ∈ [13, 10] ++ leftR r from hc) with q | q
    · exact crlf c q
    · exact ih.1 c q
end Mine
/-! Q6 -/
namespace Mine
open PySem PySem.W PySem.Spec PySem.Calls PyProof.Rows PySem.SeqAt

/-- a row of the sums -/
structure RowS (r : Int × Str) : Prop where
  d0 : 0 ≤ r.1
  d4 : r.1 ≤ 4
  w : RowW r.2
section
variable {rows : List (Int × Str)} {cell : Int}
noncomputable def wayR (rows : List (Int × Str)) (cell : Int) : Nat → Nat → List Int → List Ent
  | _, _, [] => []
  | n, pl, s :: r => if s == 1 then ((rowAt rows pl).1, (rowAt rows pl).2, 0) :: wayR rows cell (n + 1) (pl + 1) r
    else (0, pieceOf (cell + (n : Int)) ++ "\"", 1) :: ((rowAt rows pl).1, (rowAt rows pl).2, 2) :: ((rowAt rows (pl + 1)).1, (rowAt rows (pl + 1)).2, 2) :: (0, pieceOf (cell + (n + 3 : Nat)) ++ "\"", 3) :: wayR rows cell (n + 4) (pl + 2) r
noncomputable def headR (alone : Bool) (w : List Int) : List Ent := (if alone && !w.contains 2 then [((0, "\"", 0) : Ent)] else []) ++ [((0, signOf w, 0) : Ent)]
noncomputable def pagR (rows : List (Int × Str)) (cell : Int) (alone : Bool) : Nat → List (List Int) → List Ent
  | _, [] => []
  | n, w :: r => headR alone w ++ (wayR rows cell (n + (headR alone w).length) 0 w ++ pagR rows cell alone (n + (headR alone w).length + (wayR rows cell (n + (headR alone w).length) 0 w).length) r)
theorem sizes_R : ∀ (w : List Int) (pg : List Ent) (pl : Nat), sizesPage rows cell pg pl w = pg ++ wayR rows cell pg.length pl w
  | [], pg, pl => by simp [sizesPage, wayR]
  | s :: r, pg, pl => by
    rw [sizesPage, wayR]
    by_cases h : (s == 1) = true
    · rw [if_pos h, if_pos h, sizes_R r]; simp
    · rw [if_neg h, if_neg h, sizes_R r]; simp
theorem head_R (alone : Bool) (pg : List Ent) (w : List Int) : wayHead alone pg w = pg ++ headR alone w := by
  unfold wayHead headR
  by_cases h : (alone && !w.contains 2) = true
  · rw [if_pos h, if_pos h, List.append_assoc]
  · rw [if_neg h, if_neg h]; rfl
theorem page_R (alone : Bool) : ∀ (ws : List (List Int)) (pg : List Ent), pageFrom rows cell alone pg ws = pg ++ pagR rows cell alone pg.length ws
  | [], pg => by simp [pageFrom, pagR]
  | w :: r, pg => by
    rw [pageFrom, page_R alone r, sizes_R, head_R, pagR]
    simp only [List.length_append, List.append_assoc, Nat.add_assoc]
theorem sum_R (alone : Bool) : sumPage rows cell alone = pagR rows cell alone 0 (waysN rows.length).reverse := by
  unfold sumPage
  rw [page_R]; rfl
theorem row_at (hr : ∀ r ∈ rows, RowS r) (k : Nat) : RowS (rowAt rows k) := by
  unfold rowAt
  rw [List.getD_eq_getElem?_getD]
  cases q : rows[k]? with
  | none => exact ⟨by decide, by decide, roww_nil⟩
  | some r => exact hr r (List.mem_of_getElem? q)
theorem pg_way (hr : ∀ r ∈ rows, RowS r) : ∀ (w : List Int) (n pl : Nat) (rest : List Ent), PG 0 rest → PG 0 (wayR rows cell n pl w ++ rest)
  | [], _, _, rest, h => h
  | s :: r, n, pl, rest, h => by
    have r0 := row_at hr pl
    have r1 := row_at hr (pl + 1)
    rw [wayR]
    split
    · exact .row (by decide) r0.d0 r0.d4 r0.w (pg_way hr r _ _ rest h)
    · exact .opn (piece_is _) (.hid r0.d0 r0.d4 r0.w (.hid r1.d0 r1.d4 r1.w (.cls (piece_is _) (pg_way hr r _ _ rest h))))
theorem pg_ones (hr : ∀ r ∈ rows, RowS r) : ∀ (w : List Int) (n pl : Nat), (∀ s ∈ w, s = 1) → PG 2 (wayR rows cell n pl w)
  | [], _, _, _ => .nil2
  | s :: r, n, pl, h => by
    have r0 := row_at hr pl
    rw [wayR, if_pos (by rw [h s (.head _)]; rfl)]
    exact .row (by decide) r0.d0 r0.d4 r0.w (pg_ones hr r _ _ fun x hx => h x (.tail _ hx))
theorem sign_row (w : List Int) : RowW (signOf w) := by
  unfold signOf; split
  · exact roww_plus
  · exact roww_minus
theorem pg_false (hr : ∀ r ∈ rows, RowS r) : ∀ (ws : List (List Int)) (n : Nat) (rest : List Ent), PG 0 rest → PG 0 (pagR rows cell false n ws ++ rest)
  | [], _, rest, h => h
  | w :: r, n, rest, h => by
    have e : headR false w = [(0, signOf w, 0)] := rfl
    rw [pagR, e, List.append_assoc, List.append_assoc]
    exact .row (by decide) (by decide) (by decide) (sign_row w) (pg_way hr w _ _ _ (pg_false hr r _ rest h))
theorem pg_true (hr : ∀ r ∈ rows, RowS r) : ∀ (ws : List (List Int)) (n : Nat) (o : List Int), (∀ w ∈ ws, w.contains 2 = true) → (∀ s ∈ o, s = 1) → PG 0 (pagR rows cell true n (ws ++ [o]))
  | [], n, o, _, ho => by
    have hc : o.contains 2 = false := by
      rw [Bool.eq_false_iff]
      intro q
      have := ho 2 (List.contains_iff_mem.mp q)
      exact absurd this (by decide)
    have e : headR true o = [((0, "\"", 0) : Ent), ((0, signOf o, 0) : Ent)] := by unfold headR; rw [hc]; rfl
    rw [List.nil_append, pagR, e, pagR, List.append_nil]
    exact .lone (.row (by decide) (by decide) (by decide) (sign_row o) (pg_ones hr o _ _ ho))
  | w :: r, n, o, hw, ho => by
    have e : headR true w = [(0, signOf w, 0)] := by unfold headR; rw [hw w (.head _)]; rfl
    rw [List.cons_append, pagR, e]
    exact .row (by decide) (by decide) (by decide) (sign_row w) (pg_way hr w _ _ _ (pg_true hr r _ o (fun x hx => hw x (.tail _ hx)) ho))
/-- the ways: the first is of ones alone, the others have a pair -/
theorem ways_split : ∀ n, ∃ o r, waysN n = o :: r ∧ (∀ s ∈ o, s = 1) ∧ ∀ w ∈ r, w.contains 2 = true
  | 0 => ⟨[], [], rfl, nofun, nofun⟩
  | 1 => ⟨[1], [], rfl, by decide, nofun⟩
  | n + 2 => by
    obtain ⟨o, r, e, h1, h2⟩ := ways_split (n + 1)
    refine ⟨o ++ [1], r.map (· ++ [1]) ++ (waysN n).map (· ++ [2]), by rw [waysN, e]; rfl, fun s hs => ?_, fun w hw => ?_⟩
    · rcases List.mem_append.mp hs with h | h
      · exact h1 s h
      · rcases List.mem_cons.mp h with rfl | h
        · rfl
        · cases h
    · rcases List.mem_append.mp hw with h | h
      · obtain ⟨w', hw', rfl⟩ := List.mem_map.mp h
        have := h2 w' hw'
        rw [List.contains_iff_mem] at this ⊢
        exact List.mem_append_left _ this
      · obtain ⟨w', hw', rfl⟩ := List.mem_map.mp h
        rw [List.contains_iff_mem]
        exact List.mem_append_right _ (.head _)
theorem pg_sum_false (hr : ∀ r ∈ rows, RowS r) {rest : List Ent} (h : PG 0 rest) : PG 0 (sumPage rows cell false ++ rest) := by
  rw [sum_R]; exact pg_false hr _ _ _ h
theorem pg_sum_true (hr : ∀ r ∈ rows, RowS r) : PG 0 (sumPage rows cell true) := by
  obtain ⟨o, r, e, h1, h2⟩ := ways_split rows.length
  rw [sum_R, e, List.reverse_cons]
  exact pg_true hr _ _ _ (fun w hw => h2 w (List.mem_reverse.mp hw)) h1
end
/-- the whole page -/
noncomputable def lawPage (rows : List (Int × Str)) (heights : List Int) (cell : Int) : List Ent :=
  ([((1, "", 0) : Ent), ((0, "", 0) : Ent)] ++ heights.map (fun h => ((h, "*", 0) : Ent)) ++ [((0, ";", 0) : Ent)]) ++ (sumPage rows.tail cell false ++ [((0, ";", 0) : Ent)] ++ sumPage rows cell true)
theorem pg_law {rows : List (Int × Str)} {heights : List Int} {cell : Int} (hr : ∀ r ∈ rows, RowS r) (hh : ∀ h ∈ heights, 0 ≤ h ∧ h ≤ 4) : PG 0 (lawPage rows heights cell) := by
  have hh' : ∀ (hs : List Int) (rest : List Ent), (∀ h ∈ hs, 0 ≤ h ∧ h ≤ 4) → PG 0 rest → PG 0 (hs.map (fun h => ((h, "*", 0) : Ent)) ++ rest) := by
    intro hs
    induction hs with
    | nil => intro rest _ h; exact h
    | cons x hs ih =>
      intro rest h hp
      exact .row (by decide) (h x (.head _)).1 (h x (.head _)).2 roww_1 (ih rest (fun y hy => h y (.tail _ hy)) hp)
  unfold lawPage
  rw [List.append_assoc, List.append_assoc]
  refine .row (by decide) (by decide) (by decide) roww_nil (.row (by decide) (by decide) (by decide) roww_nil (hh' heights _ hh (.row (by decide) (by decide) (by decide) roww_semi ?_)))
  rw [List.append_assoc]
  exact pg_sum_false (fun r h => hr r (List.mem_of_mem_tail h)) (.row (by decide) (by decide) (by decide) roww_semi (pg_sum_true hr))

/-! ## the numbers of a page -/
theorem nums_app : ∀ (a b : List Ent), numsR (a ++ b) = numsR a ++ numsR b
  | [], _ => rfl
  | e :: a, b => by rw [List.cons_append, numsR, numsR, nums_app a b, List.append_assoc]
end Mine
/-! Q7 -/
namespace Mine
open PySem PySem.W PySem.Spec PySem.Calls PyProof.Rows PySem.SeqAt

noncomputable def VS.v (s : VS) : Int := s.whole + s.side * s.product
/-- a row whose words tell a product -/
structure RowV (r : Int × Str) : Prop where
  s : RowS r
  star : markL.lookup (Txt.slice r.2 none (some 1)) = some [16]
section
variable {rows : List (Int × Str)} {cell high turn : Int}
noncomputable def bAt (rows : List (Int × Str)) (high : Int) (k : Nat) : Int := moreOf (rowAt rows k).1 + high
noncomputable def prodW (rows : List (Int × Str)) (high : Int) : Nat → List Int → Int
  | _, [] => 1
  | pl, s :: r => if s == 1 then bAt rows high pl * prodW rows high (pl + 1) r else prodW rows high (pl + 2) r
noncomputable def sgnW (turn : Int) (w : List Int) : Int := if w.count 2 % 2 = 0 then 1 else turn
theorem fold_row {r : Int × Str} (h : RowV r) {s : VS} (hd : s.dots = 0) : (numsE (r.1, r.2, 0)).foldl (vsStep high turn) s = { s with product := s.product * (moreOf r.1 + high), dots := 0 } := by
  obtain ⟨d, w⟩ := r
  obtain ⟨⟨h0, h4, hw⟩, hm⟩ := h
  obtain ⟨a, b, c, dd⟩ := s
  have hd : dd = 0 := hd
  subst hd
  have hm : markL.lookup (Txt.slice w none (some 1)) = some [16] := hm
  unfold numsE
  rw [if_pos rfl]
  show List.foldl _ _ (List.replicate ((moreOf d).fdiv 3).toNat 52 ++ List.replicate ((moreOf d).fmod 3).toNat 23 ++ (markL.lookup (Txt.slice w none (some 1))).getD []) = _
  rw [hm]
  have h0 : 0 ≤ d := h0
  have h4 : d ≤ 4 := h4
  have : d = 0 ∨ d = 1 ∨ d = 2 ∨ d = 3 ∨ d = 4 := by (clear hd h0 h4; lia)
  rcases this with rfl | rfl | rfl | rfl | rfl <;> rfl
theorem row_v (hr : ∀ k, k < rows.length → RowV (rowAt rows k)) (k : Nat) (hk : k < rows.length) : RowV (rowAt rows k) := hr k hk
/-- the places of a way lie in the rows -/
noncomputable def fitW (n : Nat) : Nat → List Int → Prop
  | pl, [] => pl ≤ n
  | pl, s :: r => if s == 1 then pl < n ∧ fitW n (pl + 1) r else fitW n (pl + 2) r
theorem fold_way (hr : ∀ k, k < rows.length → RowV (rowAt rows k)) : ∀ (w : List Int) (n pl : Nat) (s : VS), s.dots = 0 → fitW rows.length pl w → (numsR (wayR rows cell n pl w)).foldl (vsStep high turn) s = { s with product := s.product * prodW rows high pl w, dots := 0 }
  | [], n, pl, s, hd, _ => by
    obtain ⟨a, b, c, dd⟩ := s
    have hd : dd = 0 := hd
    subst hd
    simp [wayR, numsR, prodW]
  | x :: r, n, pl, s, hd, hf => by
    rw [wayR, prodW]
    rw [fitW] at hf
    by_cases h : (x == 1) = true
    · rw [if_pos h] at hf ⊢
      rw [if_pos h, numsR, List.foldl_append, fold_row (hr pl hf.1) hd, fold_way hr r _ _ _ rfl hf.2]
      simp only [bAt, Int.mul_assoc]
    · rw [if_neg h] at hf ⊢
      rw [if_neg h]
      exact fold_way hr r _ _ s hd hf
theorem fold_head {alone : Bool} {w : List Int} {s : VS} (hd : s.dots = 0) : (numsR (headR alone w)).foldl (vsStep high turn) s = ⟨s.v, sgnW turn w, 1, 0⟩ := by
  obtain ⟨a, b, c, dd⟩ := s
  have hd : dd = 0 := hd
  subst hd
  have key : (numsR [((0, signOf w, 0) : Ent)]).foldl (vsStep high turn) ⟨a, b, c, 0⟩ = ⟨a + b * c, sgnW turn w, 1, 0⟩ := by
    unfold signOf sgnW
    by_cases h : w.count 2 % 2 = 0
    · rw [if_pos h, if_pos h]; rfl
    · rw [if_neg h, if_neg h]; rfl
  unfold headR
  rw [nums_app]
  by_cases h : (alone && !w.contains 2) = true
  · rw [if_pos h]; exact key
  · rw [if_neg h]; exact key
noncomputable def sumV (rows : List (Int × Str)) (high turn : Int) (ws : List (List Int)) : Int := (ws.map fun w => sgnW turn w * prodW rows high 0 w).sum
theorem fold_pag (hr : ∀ k, k < rows.length → RowV (rowAt rows k)) {alone : Bool} : ∀ (ws : List (List Int)) (n : Nat) (s : VS), s.dots = 0 → (∀ w ∈ ws, fitW rows.length 0 w) → ((numsR (pagR rows cell alone n ws)).foldl (vsStep high turn) s).v = s.v + sumV rows high turn ws ∧ ((numsR (pagR rows cell alone n ws)).foldl (vsStep high turn) s).dots = 0
  | [], n, s, hd, _ => ⟨by simp [pagR, numsR, sumV], hd⟩
  | w :: r, n, s, hd, hf => by
    rw [pagR, nums_app, nums_app, List.foldl_append, List.foldl_append, fold_head hd, fold_way hr w _ _ _ rfl (hf w (.head _))]
    obtain ⟨i1, i2⟩ := fold_pag hr r (n + (headR alone w).length + (wayR rows cell (n + (headR alone w).length) 0 w).length) { (⟨s.v, sgnW turn w, 1, 0⟩ : VS) with product := 1 * prodW rows high 0 w, dots := 0 } rfl (fun x hx => hf x (.tail _ hx))
    refine ⟨i1.trans ?_, i2⟩
    show s.v + sgnW turn w * (1 * prodW rows high 0 w) + sumV rows high turn r = s.v + ((sgnW turn w * prodW rows high 0 w) + sumV rows high turn r)
    rw [Int.one_mul]; (clear hd i1 i2; lia)
theorem ways_sum : ∀ n, ∀ w ∈ waysN n, w.sum = n ∧ ∀ s ∈ w, s = 1 ∨ s = 2
  | 0, w, h => by
    rcases List.mem_cons.mp h with rfl | h
    · exact ⟨rfl, nofun⟩
    · cases h
  | 1, w, h => by
    rcases List.mem_cons.mp h with rfl | h
    · exact ⟨rfl, by decide⟩
    · cases h
  | n + 2, w, h => by
    rw [waysN] at h
    rcases List.mem_append.mp h with h | h
    · obtain ⟨w', hw', rfl⟩ := List.mem_map.mp h
      obtain ⟨i1, i2⟩ := ways_sum (n + 1) w' hw'
      refine ⟨by rw [List.sum_append, i1]; simp; (clear i1; lia), fun s hs => ?_⟩
      rcases List.mem_append.mp hs with q | q
      · exact i2 s q
      · rcases List.mem_cons.mp q with rfl | q
        · exact .inl rfl
        · cases q
    · obtain ⟨w', hw', rfl⟩ := List.mem_map.mp h
      obtain ⟨i1, i2⟩ := ways_sum n w' hw'
      refine ⟨by rw [List.sum_append, i1]; simp, fun s hs => ?_⟩
      rcases List.mem_append.mp hs with q | q
      · exact i2 s q
      · rcases List.mem_cons.mp q with rfl | q
        · exact .inr rfl
        · cases q
theorem fit_of {n : Nat} : ∀ (w : List Int) (pl : Nat), (∀ s ∈ w, s = 1 ∨ s = 2) → (pl : Int) + w.sum = n → fitW n pl w
  | [], pl, _, h => by
    have h : (pl : Int) + 0 = n := h
    show pl ≤ n; lia
  | s :: r, pl, hs, h => by
    rw [List.sum_cons] at h
    have h2 : ∀ x ∈ r, x = 1 ∨ x = 2 := fun x hx => hs x (.tail _ hx)
    have hnn : 0 ≤ r.sum := by
      clear h hs
      induction r with
      | nil => exact Int.le_refl 0
      | cons y r ih =>
        have := ih fun x hx => h2 x (.tail _ hx)
        rw [List.sum_cons]
        rcases h2 y (.head _) with rfl | rfl <;> lia
    rw [fitW]
    rcases hs s (.head _) with rfl | rfl
    · rw [if_pos (by decide)]; exact ⟨by omega, fit_of r _ h2 (by (clear hnn; lia))⟩
    · rw [if_neg (by decide)]; exact fit_of r _ h2 (by (clear hnn; lia))
theorem fit_ways (n : Nat) : ∀ w ∈ waysN n, fitW n 0 w := fun w h => let ⟨h1, h2⟩ := ways_sum n w h; fit_of w 0 h2 (by simpa using h1)
theorem sum_rev (l : List Int) : l.reverse.sum = l.sum := by
  induction l with
  | nil => rfl
  | cons x l ih => rw [List.reverse_cons, List.sum_append, ih]; simp; (clear ih; lia)
/-- the value of a sum's numbers -/
theorem value_sum (hr : ∀ k, k < rows.length → RowV (rowAt rows k)) (alone : Bool) (tl : List Int) (ht : tl = [] ∨ tl = [23, 23]) : valueOf (numsR (sumPage rows cell alone) ++ tl) high turn = sumV rows high turn (waysN rows.length) := by
  have h := fold_pag (cell := cell) (high := high) (turn := turn) hr (alone := alone) (waysN rows.length).reverse 0 vsStart rfl fun w hw => fit_ways _ w (List.mem_reverse.mp hw)
  rw [← sum_R] at h
  have e : valueOf (numsR (sumPage rows cell alone) ++ tl) high turn = ((numsR (sumPage rows cell alone)).foldl (vsStep high turn) vsStart).v := by
    show VS.v ((numsR (sumPage rows cell alone) ++ tl).foldl (vsStep high turn) vsStart) = _
    rw [List.foldl_append]
    rcases ht with rfl | rfl <;> rfl
  rw [e, h.1]
  show 0 + 0 * 1 + sumV rows high turn (waysN rows.length).reverse = _
  unfold sumV
  rw [List.map_reverse, sum_rev]; (clear ht h e; lia)
end
end Mine
/-! Q8 -/
namespace Mine
open PySem PySem.W PySem.Spec PySem.Calls PyProof.Rows PySem.SeqAt

noncomputable def Kt (t : Int) : List Int → Int
  | [] => 1
  | [b] => b
  | b :: c :: r => b * Kt t (c :: r) + t * Kt t r
section
variable {rows : List (Int × Str)} {high t : Int}
theorem sumV_1 : sumV rows high t (waysN 1) = Kt t [bAt rows high 0] := by
  show sgnW t [1] * (bAt rows high 0 * 1) + 0 = bAt rows high 0
  rw [show sgnW t [1] = 1 from rfl]; lia
theorem sumV_2 : sumV rows high t (waysN 2) = Kt t [bAt rows high 0, bAt rows high 1] := by
  show sgnW t [1, 1] * (bAt rows high 0 * (bAt rows high 1 * 1)) + (sgnW t [2] * 1 + 0) = bAt rows high 0 * bAt rows high 1 + t * 1
  rw [show sgnW t [1, 1] = 1 from rfl, show sgnW t [2] = t from rfl]
  grind
theorem sumV_3 : sumV rows high t (waysN 3) = Kt t [bAt rows high 0, bAt rows high 1, bAt rows high 2] := by
  show sgnW t [1, 1, 1] * (bAt rows high 0 * (bAt rows high 1 * (bAt rows high 2 * 1))) + (sgnW t [2, 1] * (bAt rows high 2 * 1) + (sgnW t [1, 2] * (bAt rows high 0 * 1) + 0)) = bAt rows high 0 * (bAt rows high 1 * bAt rows high 2 + t * 1) + t * bAt rows high 2
  rw [show sgnW t [1, 1, 1] = 1 from rfl, show sgnW t [2, 1] = t from rfl, show sgnW t [1, 2] = t from rfl]
  grind
theorem sumV_4 (ht : t * t = 1) : sumV rows high t (waysN 4) = Kt t [bAt rows high 0, bAt rows high 1, bAt rows high 2, bAt rows high 3] := by
  show sgnW t [1, 1, 1, 1] * (bAt rows high 0 * (bAt rows high 1 * (bAt rows high 2 * (bAt rows high 3 * 1)))) + (sgnW t [2, 1, 1] * (bAt rows high 2 * (bAt rows high 3 * 1)) + (sgnW t [1, 2, 1] * (bAt rows high 0 * (bAt rows high 3 * 1)) + (sgnW t [1, 1, 2] * (bAt rows high 0 * (bAt rows high 1 * 1)) + (sgnW t [2, 2] * 1 + 0)))) = bAt rows high 0 * (bAt rows high 1 * (bAt rows high 2 * bAt rows high 3 + t * 1) + t * bAt rows high 3) + t * (bAt rows high 2 * bAt rows high 3 + t * 1)
  rw [show sgnW t [1, 1, 1, 1] = 1 from rfl, show sgnW t [2, 1, 1] = t from rfl, show sgnW t [1, 2, 1] = t from rfl, show sgnW t [1, 1, 2] = t from rfl, show sgnW t [2, 2] = 1 from rfl]
  grind
end
theorem kt_grow {t : Int} (ht : t = 1 ∨ t = -1) : ∀ bs : List Int, (∀ b ∈ bs, 2 ≤ b) → 1 ≤ Kt t bs ∧ ∀ b r, bs = b :: r → Kt t r < Kt t bs
  | [], _ => ⟨by show (1 : Int) ≤ 1; (clear ht; lia), nofun⟩
  | [b], h => by
    have hb := h b (.head _)
    refine ⟨by show 1 ≤ b; (clear ht; lia), fun b' r e => ?_⟩
    obtain ⟨rfl, rfl⟩ := List.cons.inj e
    show (1 : Int) < b; (clear ht; lia)
  | b :: c :: r, h => by
    have hb := h b (.head _)
    obtain ⟨i1, i2⟩ := kt_grow ht (c :: r) fun x hx => h x (.tail _ hx)
    obtain ⟨j1, _⟩ := kt_grow ht r fun x hx => h x (.tail _ (.tail _ hx))
    have i3 := i2 c r rfl
    have m : 2 * Kt t (c :: r) ≤ b * Kt t (c :: r) := Int.mul_le_mul_of_nonneg_right hb (by (clear ht hb j1 i3; lia))
    have e : Kt t (b :: c :: r) = b * Kt t (c :: r) + t * Kt t r := rfl
    have k : Kt t (c :: r) < Kt t (b :: c :: r) := by
      rw [e]
      rcases ht with rfl | rfl <;> (clear hb i1; lia)
    refine ⟨by (clear ht hb j1 i3 m e; lia), fun b' r' e' => ?_⟩
    obtain ⟨rfl, rfl⟩ := List.cons.inj e'
    exact k
theorem run_kt {t U : Int} (ht : t = 1 ∨ t = -1) (hU : 0 < U) : ∀ (b : Int) (r : List Int), (∀ x ∈ b :: r, 2 ≤ x) → RunOk t (U * Kt t (b :: r)) (U * Kt t r) (b :: r)
  | b, [], h => by
    have e0 : t * (U * b - U * 1 * b) = 0 := by rw [Int.mul_one, Int.sub_self, Int.mul_zero]
    show 0 < U * 1 ∧ 0 ≤ t * (U * b - U * 1 * b) ∧ t * (U * b - U * 1 * b) < U * 1 ∧ (t * (U * b - U * 1 * b) = 0 ↔ ([] : List Int) = []) ∧ (t * (U * b - U * 1 * b) = 0 ∧ 0 < U * 1)
    rw [e0, Int.mul_one]
    exact ⟨hU, Int.le_refl 0, hU, ⟨fun zz => rfl, fun zz => rfl⟩, rfl, hU⟩
  | b, c :: r, h => by
    have tt : t * t = 1 := by rcases ht with rfl | rfl <;> rfl
    have e0 : t * (U * Kt t (b :: c :: r) - U * Kt t (c :: r) * b) = U * Kt t r := by
      show t * (U * (b * Kt t (c :: r) + t * Kt t r) - U * Kt t (c :: r) * b) = U * Kt t r
      grind
    obtain ⟨i1, i2⟩ := kt_grow ht (c :: r) fun x hx => h x (.tail _ hx)
    obtain ⟨j1, _⟩ := kt_grow ht r fun x hx => h x (.tail _ (.tail _ hx))
    have i3 := i2 c r rfl
    have ih := run_kt ht hU c r fun x hx => h x (.tail _ hx)
    have p1 : 0 < U * Kt t (c :: r) := Int.mul_pos hU (by (clear ht hU tt e0 j1 i3; lia))
    have p0 : 0 < U * Kt t r := Int.mul_pos hU (by (clear ht hU tt e0 i1 i3 p1; lia))
    have p2 : U * Kt t r < U * Kt t (c :: r) := Int.mul_lt_mul_of_pos_left i3 hU
    rw [RunOk, e0]
    exact ⟨p1, by (clear ht hU tt e0 i1 j1 i3 p1 p2; lia), p2, ⟨fun q => by (clear ht hU tt e0 i1 j1 i3 p1 p2; lia), nofun⟩, ih⟩

/-! ## the columns -/
noncomputable def RunB (t : Int) : Int → Int → List Int → Bool
  | u, l, [] => l == 0 && decide (0 < u)
  | u, l, q :: qs => decide (0 < l) && decide (0 ≤ t * (u - l * q)) && decide (t * (u - l * q) < l) && (decide (t * (u - l * q) = 0) == qs.isEmpty) && RunB t l (t * (u - l * q)) qs
theorem run_of_B {t : Int} : ∀ (qs : List Int) (u l : Int), RunB t u l qs = true → RunOk t u l qs
  | [], u, l, h => by
    simp only [RunB, Bool.and_eq_true, beq_iff_eq, decide_eq_true_eq] at h
    exact h
  | q :: qs, u, l, h => by
    simp only [RunB, Bool.and_eq_true, beq_iff_eq, decide_eq_true_eq] at h
    obtain ⟨⟨⟨⟨h1, h2⟩, h3⟩, h4⟩, h5⟩ := h
    refine ⟨h1, h2, h3, ?_, run_of_B qs _ _ h5⟩
    constructor
    · intro z
      rw [decide_eq_true z] at h4
      exact List.isEmpty_iff.mp h4.symm
    · intro z
      rw [z] at h4
      exact of_decide_eq_true h4
noncomputable def colsF : List Int → List Int → List Int
  | h, [] => h
  | h, d :: ds => colsF (bump h ++ List.replicate (d - 1).toNat 1) ds
noncomputable def colsD : List Int → List Int
  | [] => []
  | d :: ds => colsF (List.replicate d.toNat 1) ds
theorem cols_from : ∀ (rows : List (Int × Str)) (h : List Int), colsFrom h rows = colsF h (rows.map (·.1))
  | [], _ => rfl
  | r :: rs, h => cols_from rs _
theorem cols_D : ∀ rows : List (Int × Str), colsOf rows = colsD (rows.map (·.1))
  | [] => rfl
  | r :: rs => cols_from rs _
/-- the dots of two to four rows -/
noncomputable def Dots (ds : List Int) : Prop := (∀ d ∈ ds, d = 1 ∨ d = 2 ∨ d = 3) ∧ (ds.length = 2 ∨ ds.length = 3 ∨ ds.length = 4)
noncomputable def dualB (ds : List Int) : Bool := RunB (-1) (Kt (-1) (ds.tail.map (· + 1))) (Kt (-1) (ds.map (· + 1))) (1 :: (colsD ds).map (· + 1)) && (colsD ds).all (fun h => decide (0 ≤ h) && decide (h ≤ 4)) && decide ((colsD ds).length ≤ 20)
theorem dual2 : ∀ a ∈ ([1, 2, 3] : List Int), ∀ b ∈ ([1, 2, 3] : List Int), dualB [a, b] = true := by decide +kernel
theorem dual3 : ∀ a ∈ ([1, 2, 3] : List Int), ∀ b ∈ ([1, 2, 3] : List Int), ∀ c ∈ ([1, 2, 3] : List Int), dualB [a, b, c] = true := by decide +kernel
theorem dual4 : ∀ a ∈ ([1, 2, 3] : List Int), ∀ b ∈ ([1, 2, 3] : List Int), ∀ c ∈ ([1, 2, 3] : List Int), ∀ d ∈ ([1, 2, 3] : List Int), dualB [a, b, c, d] = true := by decide +kernel
theorem dual {ds : List Int} (h : Dots ds) : dualB ds = true := by
  obtain ⟨h1, h2⟩ := h
  have m : ∀ d ∈ ds, d ∈ ([1, 2, 3] : List Int) := fun d hd => by rcases h1 d hd with rfl | rfl | rfl <;> decide
  match ds, h2, m with
  | [a, b], _, m => exact dual2 a (m a (by simp)) b (m b (by simp))
  | [a, b, c], _, m => exact dual3 a (m a (by simp)) b (m b (by simp)) c (m c (by simp))
  | [a, b, c, d], _, m => exact dual4 a (m a (by simp)) b (m b (by simp)) c (m c (by simp)) d (m d (by simp))
  | [], h, _ => simp at h
  | [a], h, _ => simp at h
  | a :: b :: c :: d :: e :: r, h, _ => simp at h
end Mine
/-! Q9 -/
namespace Mine
open PySem PySem.W PySem.Spec PySem.Calls PyProof.Rows PySem.SeqAt

noncomputable def rowOf (c : Int) : Int × Str := (1 + c.fmod 3, "*" ++ pieceOf (c.fdiv 3))
theorem row_dots (c : Int) : (rowOf c).1 = 1 ∨ (rowOf c).1 = 2 ∨ (rowOf c).1 = 3 := by
  have := fmod_lt (a := c) (b := 3) (by decide)
  show 1 + c.fmod 3 = 1 ∨ 1 + c.fmod 3 = 2 ∨ 1 + c.fmod 3 = 3
  lia
theorem star_mark {p : Str} (h : IsPiece p) : markL.lookup (Txt.slice ("*" ++ p) none (some 1)) = some [16] := by
  obtain ⟨n, hn, rfl⟩ := h
  revert n
  exact five rfl rfl rfl rfl rfl
theorem row_RowV (c : Int) : RowV (rowOf c) := by
  have := row_dots c
  exact ⟨⟨by lia, by lia, roww_star (piece_is _)⟩, star_mark (piece_is _)⟩
noncomputable def rowsAt (cells : List Int) (k : Nat) : List (Int × Str) := ((cells.drop 1).take k).map rowOf
section
variable {rows : List (Int × Str)} {cell high t : Int}
structure Rows (rows : List (Int × Str)) : Prop where
  v : ∀ r ∈ rows, RowV r
  d : Dots (rows.map (·.1))
theorem rowAt_v (h : ∀ r ∈ rows, RowV r) (k : Nat) (hk : k < rows.length) : RowV (rowAt rows k) := by
  unfold rowAt
  rw [List.getD_eq_getElem?_getD, List.getElem?_eq_getElem hk]
  exact h _ (List.getElem_mem hk)
theorem more_one {d : Int} (h : d = 1 ∨ d = 2 ∨ d = 3) : moreOf d = d + 1 := by
  rcases h with rfl | rfl | rfl <;> rfl
theorem sums_K (hl : rows.length = 1 ∨ rows.length = 2 ∨ rows.length = 3 ∨ rows.length = 4) (hd : ∀ r ∈ rows, r.1 = 1 ∨ r.1 = 2 ∨ r.1 = 3) (ht : t * t = 1) : sumV rows high t (waysN rows.length) = Kt t ((rows.map (·.1)).map (· + 1 + high)) := by
  have b : ∀ r, r ∈ rows → moreOf r.1 + high = r.1 + 1 + high := fun r hr => by rw [more_one (hd r hr)]
  match rows, hl, b with
  | [r0], _, b => exact (sumV_1).trans (congrArg (Kt t) (by show [moreOf r0.1 + high] = [r0.1 + 1 + high]; rw [b r0 (by simp)]))
  | [r0, r1], _, b => exact (sumV_2).trans (congrArg (Kt t) (by show [moreOf r0.1 + high, moreOf r1.1 + high] = [r0.1 + 1 + high, r1.1 + 1 + high]; rw [b r0 (by simp), b r1 (by simp)]))
  | [r0, r1, r2], _, b => exact (sumV_3).trans (congrArg (Kt t) (by show [moreOf r0.1 + high, moreOf r1.1 + high, moreOf r2.1 + high] = [r0.1 + 1 + high, r1.1 + 1 + high, r2.1 + 1 + high]; rw [b r0 (by simp), b r1 (by simp), b r2 (by simp)]))
  | [r0, r1, r2, r3], _, b => exact (sumV_4 ht).trans (congrArg (Kt t) (by show [moreOf r0.1 + high, moreOf r1.1 + high, moreOf r2.1 + high, moreOf r3.1 + high] = [r0.1 + 1 + high, r1.1 + 1 + high, r2.1 + 1 + high, r3.1 + 1 + high]; rw [b r0 (by simp), b r1 (by simp), b r2 (by simp), b r3 (by simp)]))
  | [], h, _ => simp at h
  | _ :: _ :: _ :: _ :: _ :: _, h, _ => simp at h
theorem upper_K (h : Rows rows) (ht : t * t = 1) : valueOf (numsR (sumPage rows cell true) ++ [23, 23]) high t = Kt t ((rows.map (·.1)).map (· + 1 + high)) := by
  rw [value_sum (fun k hk => rowAt_v h.v k hk) true _ (.inr rfl)]
  have hl := h.d.2
  rw [List.length_map] at hl
  exact sums_K (by (clear ht; lia)) (fun r hr => h.d.1 _ (List.mem_map_of_mem hr)) ht
theorem lower_K (h : Rows rows) (ht : t * t = 1) : valueOf (numsR (sumPage rows.tail cell false)) high t = Kt t ((rows.map (·.1)).tail.map (· + 1 + high)) := by
  have := value_sum (rows := rows.tail) (cell := cell) (high := high) (turn := t) (fun k hk => rowAt_v (fun r hr => h.v r (List.mem_of_mem_tail hr)) k hk) false [] (.inl rfl)
  rw [List.append_nil] at this
  rw [this]
  have hl := h.d.2
  rw [List.length_map] at hl
  rw [← List.map_tail]
  exact sums_K (by rw [List.length_tail]; (clear ht this; lia)) (fun r hr => h.d.1 _ (List.mem_map_of_mem (List.mem_of_mem_tail hr))) ht

/-! ## where the two semicolons stand -/
theorem mem_nums {x : Int} : ∀ {page : List Ent}, x ∈ numsR page → ∃ e ∈ page, x ∈ numsE e
  | e :: r, h => by
    rcases List.mem_append.mp h with h | h
    · exact ⟨e, .head _, h⟩
    · obtain ⟨e', h1, h2⟩ := mem_nums h
      exact ⟨e', .tail _ h1, h2⟩
theorem nums_no {d : Int} {w : Str} {l : List Int} (hm : markL.lookup (Txt.slice w none (some 1)) = some l) (hl : (13 : Int) ∉ l) : (13 : Int) ∉ numsE (d, w, 0) := by
  unfold numsE
  rw [if_pos rfl]
  intro h
  rcases List.mem_append.mp h with h | h
  · rcases List.mem_append.mp h with h | h
    · exact absurd (List.eq_of_mem_replicate h) (by decide)
    · exact absurd (List.eq_of_mem_replicate h) (by decide)
  · have hm' : markL.lookup (Txt.slice ((d, w, 0) : Ent).2.1 none (some 1)) = some l := hm
    rw [hm'] at h; exact hl h
theorem no_way (hr : ∀ r ∈ rows, RowV r) : ∀ (w : List Int) (n pl : Nat), fitW rows.length pl w → ∀ e ∈ wayR rows cell n pl w, (13 : Int) ∉ numsE e
  | [], _, _, _, e, he => nomatch he
  | s :: r, n, pl, hf, e, he => by
    rw [wayR] at he
    rw [fitW] at hf
    by_cases q : (s == 1) = true
    · rw [if_pos q] at he hf
      rcases List.mem_cons.mp he with rfl | he
      · exact nums_no (rowAt_v hr pl hf.1).star (by decide)
      · exact no_way hr r _ _ hf.2 e he
    · rw [if_neg q] at he hf
      rcases List.mem_cons.mp he with rfl | he
      · exact nofun
      · rcases List.mem_cons.mp he with rfl | he
        · exact nofun
        · rcases List.mem_cons.mp he with rfl | he
          · exact nofun
          · rcases List.mem_cons.mp he with rfl | he
            · exact nofun
            · exact no_way hr r _ _ hf e he
theorem no_pag (hr : ∀ r ∈ rows, RowV r) : ∀ (ws : List (List Int)) (n : Nat), (∀ w ∈ ws, fitW rows.length 0 w) → ∀ e ∈ pagR rows cell false n ws, (13 : Int) ∉ numsE e
  | [], _, _, e, he => nomatch he
  | w :: r, n, hf, e, he => by
    rw [pagR] at he
    rcases List.mem_append.mp he with he | he
    · have e1 : headR false w = [(0, signOf w, 0)] := rfl
      rw [e1] at he
      rcases List.mem_cons.mp he with rfl | he
      · unfold signOf; split
        · exact nums_no (l := [14]) rfl (by decide)
        · exact nums_no (l := [15]) rfl (by decide)
      · cases he
    · rcases List.mem_append.mp he with he | he
      · exact no_way hr w _ _ (hf w (.head _)) e he
      · exact no_pag hr r _ (fun x hx => hf x (.tail _ hx)) e he
theorem no_low (hr : ∀ r ∈ rows, RowV r) : (13 : Int) ∉ numsR (sumPage rows cell false) := by
  intro h
  rw [sum_R] at h
  obtain ⟨e, h1, h2⟩ := mem_nums h
  exact no_pag hr _ _ (fun w hw => fit_ways _ w (List.mem_reverse.mp hw)) e h1 h2
theorem no_first (heights : List Int) : (13 : Int) ∉ numsR ([((1, "", 0) : Ent), ((0, "", 0) : Ent)] ++ heights.map fun h => ((h, "*", 0) : Ent)) := by
  intro h
  obtain ⟨e, h1, h2⟩ := mem_nums h
  rcases List.mem_append.mp h1 with h1 | h1
  · rcases List.mem_cons.mp h1 with rfl | h1
    · exact absurd h2 (by decide)
    · rcases List.mem_cons.mp h1 with rfl | h1
      · exact absurd h2 (by decide)
      · cases h1
  · obtain ⟨x, _, rfl⟩ := List.mem_map.mp h1
    exact nums_no (l := [16]) rfl (by decide) h2
/-- the numbers of the whole page -/
theorem nums_law (heights : List Int) : numsR (lawPage rows heights cell) = numsR ([((1, "", 0) : Ent), ((0, "", 0) : Ent)] ++ heights.map fun h => ((h, "*", 0) : Ent)) ++ 13 :: (numsR (sumPage rows.tail cell false) ++ 13 :: numsR (sumPage rows cell true)) := by
  unfold lawPage
  rw [nums_app, nums_app, nums_app (_ ++ _), nums_app (sumPage _ _ _)]
  have e : numsR [((0, ";", 0) : Ent)] = [13] := rfl
  rw [e]
  simp only [List.append_assoc, List.cons_append, List.nil_append]
end
end Mine
/-! L1 -/
namespace Mine
open PySem PySem.W PySem.Spec PySem.Calls PyProof.Rows PySem.SeqAt
open Builtin.Int (intBits)

section
variable {C : Cx} {F : Fx} {ρ ρ' σ : Store} {K K' : Fl → Store → Prop}

/-- the frame stands when its own object's slots change alone -/
theorem Frm.slots {W : Wt} {s s' : Shared} {oL : Obj} (f : Frm C F W ρ s) (g' : Gd C s') (e : s.heap.get? F.env.locals = some oL) (k1 : ∀ b o, C.off b → b ≠ F.env.locals → s.heap.get? b = some o → s'.heap.get? b = some o)
    (k2 : ∃ sl, s'.heap.get? F.env.locals = some { oL with slots := sl }) (kg : ∀ (i : Nat) (x : GenState), s.gens[i]? = some x → s'.gens[i]? = some x) : Frm C F W ρ s' := by
  have kd : ∀ b, b ≠ F.env.locals → Kd s.heap s'.heap b := fun b h o e n => k1 b o (f.gd.off e n) h e
  have kp : Kp W.hid s.heap W.hid s'.heap := fun b o nb eb hq => ⟨nb, k1 b o (f.gd.offq eb hq) (fun z => nb (z ▸ f.hL)) eb⟩
  have nc : ∀ y c, F.env.cells.lookup y = some c → c ≠ F.env.locals := fun y c q z => by
    obtain ⟨oN, es, ep, n1, n2, n3⟩ := f.ns
    obtain ⟨o, e1, hd⟩ := f.cells y c q
    rw [z, n1] at e1
    rw [← Option.some.inj e1, n2] at hd
    cases hd
  exact { f with
    gd := g'
    ns := by
      obtain ⟨oN, es, ep, n1, n2, n3⟩ := f.ns
      obtain ⟨sl, n4⟩ := k2
      rw [e] at n1
      rw [← Option.some.inj n1] at n2
      exact ⟨_, es, ep, n4, n2, n3⟩
    cells := fun y c q => cell_keep (f.cells y c q) (kd _ (nc y c q))
    vals := fun y d q => (f.vals y d q).imp fun zz q => ⟨q.1, q.2.mono kp⟩
    owns := fun y d q => by
      obtain ⟨v, e1, a, vs, n, e2, e3, e4, e5, e6, e7, e8, e9⟩ := f.owns y d q
      exact ⟨v, e1, a, vs, n, e2, k1 _ _ (f.gd.off e3 (fun zz q => by cases q)) e7 e3, e4.mono kp, e5, e6, e7, e8, e9⟩
    sc := fun b o n q => k1 b o n (fun z => no_at q f.lloc z) (f.sc b o n q)
    pins := fun p hp => have q := f.pins p hp; ⟨k1 _ _ q.2.1 q.2.2.2.1 q.1, q.2⟩
    seen := fun p hp => (f.seen p hp).mono kp
    gens := fun i x q => kg i x (f.gens i x q)
    bd := fun b q => by
      by_cases z : b = F.env.locals
      · exact k2.elim fun zz n4 => ⟨_, z ▸ n4⟩
      · obtain ⟨o, eb⟩ := f.bd b q
        exact (off_or g' b).elim (fun ho => ⟨_, k1 b o ho z eb⟩) id }

/-- a test after which the frame stands -/
structure TsF (C : Cx) (F : Fx) (ρ : Store) (e : Expr) (b : Bool) : Prop where
  go : ∀ (W : Wt) (s : Shared) (Q : Bool → Shared → Prop) (E : Value → Shared → Prop), Frm C F W ρ s → (∀ s', Frm C F W ρ s' → Q b s') → wpAny (model C.prog C.w) F.A (isTrue e F.env (eval e F.env)) Q E s
theorem TsF.of {e : Expr} {b : Bool} (h : Ts C F ρ e b) : TsF C F ρ e b := .mk fun W s Q E f q => h.go W s Q E f fun s' x => q s' (f.ex x)
theorem tsf_not {x : Expr} {p : Pos} {b : Bool} (h : TsF C F ρ x b) : TsF C F ρ (.UnaryOp .Not x p) (!b) := .mk fun W s Q E f q => wpAny_isTrue_Not (h.go W s _ _ f fun s' x => q s' x)
theorem tsf_or {x y : Expr} {p : Pos} (h1 : TsF C F ρ x false) (h2 : TsF C F ρ y false) : TsF C F ρ (.BoolOp .Or [x, y] p) false := .mk fun W s Q E f q =>
  wpAny_isTrue_BoolOp (wpAny_allTrue_Or_cons (h1.go W s _ _ f fun s' f' => by
    rw [if_neg Bool.false_ne_true]
    exact wpAny_allTrue_Or_cons (h2.go W s' _ _ f' fun s'' f'' => by
      rw [if_neg Bool.false_ne_true]
      exact wpAny_allTrue_Or_nil (q s'' f''))))
theorem ws_skipF {test : Expr} {body rest : List Stmt} {p : Pos} (ht : TsF C F ρ test false) (hr : Ws C F ρ rest K) : Ws C F ρ (.If test body [] p :: rest) K := .mk fun W s f =>
  wpAny_execs_cons (wpAny_If (ht.go W s _ _ f fun s' f' => by
    rw [if_neg Bool.false_ne_true]
    exact wpAny_execs_nil (hr.go W s' f')))
theorem tsf_run (pr : Pr C) (pc : PrC C) (h0 : C.hd = none) {np pos : Pos} {es : List Expr} {t u l : Int} {due : List Int} (ht : t = 1 ∨ t = -1) (hok : RunOk t u l due) (hn : due.length ≤ 1000) (hu : intBits u ≤ 50000) (hl : intBits l ≤ 50000) (hd : ∀ q ∈ due, intBits q ≤ 10000)
    (hA : F.A.frames = some [F.env]) (e0 : F.env.frame = some F.env.locals) (hk : 31 ≤ F.k) (hx : F.env.kindOf (Str.ofString "_law_run") = some .globalImplicit)
    (h : Evs C F ρ pos es [.int u, .int l, .lst (lI due), .int t])
    (he : ∀ whole, isTrue (.Call (.Name (Str.ofString "_law_run") np) es [] pos) F.env whole = (do let v ← whole; standAt pos; holding [v] (truthy v)) := by intro _; rfl) : TsF C F ρ (.Call (.Name (Str.ofString "_law_run") np) es [] pos) true := .mk fun W s Q E f q => by
  obtain ⟨a, hf⟩ := pr.fn "_law_run" _ P_run.2
  obtain ⟨fd, hfn⟩ := hf.fn
  refine wpAny_isTrue_value (call_raw hfn h f hx fun vs s₁ x r => ?_) (he _)
  have f₁ := f.ex x
  obtain ⟨oN, es, ep, n1, n2, n3⟩ := f₁.ns
  refine run_call pr pc h0 ht hok hn hu hl hd hA (by rw [f₁.kind]; decide) e0 n1 n2 ?_ f₁.hL (f₁.rm.mono hk) f₁.gd f₁.bd r hf fun s₂ g₂ k1 k2 k3 => ?_
  · exact f₁.free f₁.lloc
  · exact wpAny_truthy_bool (q s₂ (f₁.slots g₂ n1 k1 k2 k3))
end
end Mine
/-! L2 -/
namespace Mine
open PySem PySem.W PySem.Spec PySem.Calls PyProof.Rows PySem.SeqAt
open Builtin.Int (intBits)

theorem contains_one {x : Str} {c : Nat} (h : c ∈ x.cps.toList) : Txt.contains x ⟨#[c]⟩ = true := by
  show (!(Builtin.Str.occurrences x ⟨#[c]⟩ 0 x.length 1).isEmpty) = true
  rw [PyProof.Rows.empty_one]; simp [h]
theorem join_l : ∀ ys : List Str, (Str.join "" ys).cps.toList = flatS ys
  | [] => rfl
  | [x] => by simp [Str.join, flatS]
  | x :: y :: r => by
    show ((x ++ "") ++ Str.join "" (y :: r)).cps.toList = _
    rw [app_l, app_l, join_l (y :: r)]
    show (x.cps.toList ++ []) ++ flatS (y :: r) = x.cps.toList ++ flatS (y :: r)
    rw [List.append_nil]
theorem joinE_l (ys : List Str) : (Txt.join "" ys).cps.toList = flatS ys := by
  rw [eq_of_beq (join_closes (sep := "") (sep' := "") (ys := ys) rfl)]; exact join_l ys
theorem str_ext {a b : Str} (h : a.cps.toList = b.cps.toList) : a = b := by
  obtain ⟨x⟩ := a
  obtain ⟨y⟩ := b
  exact congrArg Str.mk (Array.toList_inj.mp h)
theorem len_l (a : Str) : a.length = a.cps.toList.length := by simp [Str.length]
theorem st_len (x : Str) : ∀ (l : List (Nat × List Nat)) (s : SS), (l.foldl (stStep x) s).res.length ≤ s.res.length + l.length
  | [], s => Nat.le_refl _
  | it :: r, s => by
    have h1 : (stStep x s it).res.length ≤ s.res.length + 1 := by
      unfold stStep
      split
      · split
        · exact Nat.le_succ _
        · show (if _ then _ else _ : List Str).length ≤ _
          split
          · exact Nat.le_succ _
          · simp
      · exact Nat.le_succ _
    have h2 := st_len x r (stStep x s it)
    simp only [List.foldl_cons, List.length_cons]; lia
theorem parts_len (x : Str) : (stParts x).length ≤ x.length + 2 := by
  have h1 := st_len x (escF 0 false x.cps.toList) ⟨0, none, []⟩
  have h2 := escF_len x.cps.toList 0 false
  rw [← len_l] at h2
  have h3 : (stFold x).res.length ≤ 0 + (escF 0 false x.cps.toList).length := h1
  unfold stParts
  split
  · rw [List.length_append, List.length_cons, List.length_nil]; (clear h1; lia)
  · (clear h1; lia)
theorem flat_len (l : List Str) : (flatS l).length = (l.map (·.length)).sum := by
  unfold flatS
  rw [List.length_flatMap]
  rw [List.map_congr_left fun a zz => (len_l a).symm]

/-! ## how long -/
section
variable {rows : List (Int × Str)} {cell : Int}
theorem line_len {d : Int} {w : Str} : (lineL d w).length = d.toNat + w.length := by
  unfold lineL dotsL
  rw [List.length_append, List.length_replicate, ← len_l]
theorem ok_more {e : Ent} (h : EntOk e) : (moreOf e.1).toNat ≤ 5 := by
  have := more_le h.1 h.2.1; lia
theorem mailR_len : ∀ (P : List Ent) (sh : Int), (∀ e ∈ P, EntOk e) → (mailR P sh).length ≤ 20 * P.length
  | [], _, _ => Nat.le_refl _
  | e :: r, sh, h => by
    have ih := mailR_len r (sh + 1) fun x hx => h x (.tail _ hx)
    obtain ⟨h0, h1, h2, _⟩ := h e (.head _)
    have he := eol_len (sh.fmod 3).toNat
    rw [len_l] at he
    rw [mailR, List.length_append, List.length_append, line_len, List.length_cons]; lia
theorem dueR_len : ∀ (P : List Ent), (∀ e ∈ P, EntOk e) → (dueR P).length ≤ 20 * P.length
  | [], _ => Nat.le_refl _
  | e :: r, h => by
    have ih := dueR_len r fun x hx => h x (.tail _ hx)
    have h5 := ok_more (h e (.head _))
    obtain ⟨h0, h1, h2, _⟩ := h e (.head _)
    rw [dueR, List.length_append, line_len, List.length_cons, List.length_cons, List.length_cons]; (clear h0 h1; lia)
theorem leftR_len : ∀ (P : List Ent), (∀ e ∈ P, EntOk e) → (leftR P).length ≤ 20 * P.length
  | [], _ => Nat.le_refl _
  | e :: r, h => by
    have ih := leftR_len r fun x hx => h x (.tail _ hx)
    have h5 := ok_more (h e (.head _))
    obtain ⟨h0, h1, h2, _⟩ := h e (.head _)
    have : (leftE e).length ≤ 20 := by
      unfold leftE
      split
      · rw [List.length_append, line_len, List.length_cons, List.length_cons, List.length_nil]; (clear ih h0 h1; lia)
      · split
        · rw [List.length_dropLast, ← len_l]; (clear ih h5 h0 h1; omega)
        · split <;> simp
    rw [leftR, List.length_append, List.length_cons]; (clear h5 h0 h1 h2; lia)
theorem mark_len {x : Str} {l : List Int} (h : markL.lookup x = some l) : l.length ≤ 1 := by
  have := lookup_mem h
  simp only [markL, List.mem_cons, List.mem_nil_iff, Prod.mk.injEq, or_false] at this
  rcases this with ⟨_, rfl⟩ | ⟨_, rfl⟩ | ⟨_, rfl⟩ | ⟨_, rfl⟩ | ⟨_, rfl⟩ | ⟨_, rfl⟩ <;> decide
theorem numsR_len : ∀ (P : List Ent), (∀ e ∈ P, EntOk e) → (numsR P).length ≤ 4 * P.length
  | [], _ => Nat.le_refl _
  | e :: r, h => by
    have ih := numsR_len r fun x hx => h x (.tail _ hx)
    obtain ⟨h0, h1, h2, h3⟩ := h e (.head _)
    have : (numsE e).length ≤ 4 := by
      unfold numsE
      split
      · rename_i q
        obtain ⟨l, hl⟩ := h3 q
        have hm := mark_len hl
        rw [hl, (dots_more h0 h1).1, (dots_more h0 h1).2]
        have h5 := ok_more (h e (.head _))
        rw [List.length_append, List.length_append, List.length_replicate, List.length_replicate, Option.getD_some]
        (clear ih h0 h1 h2 q; lia)
      · simp
    rw [numsR, List.length_append, List.length_cons]; (clear h0 h1 h2; lia)
theorem wayR_len : ∀ (w : List Int) (n pl : Nat), (wayR rows cell n pl w).length ≤ 4 * w.length
  | [], _, _ => Nat.le_refl _
  | s :: r, n, pl => by
    have i1 := wayR_len r (n + 1) (pl + 1)
    have i2 := wayR_len r (n + 4) (pl + 2)
    rw [wayR]
    split <;> simp only [List.length_cons] <;> lia
theorem headR_len (alone : Bool) (w : List Int) : (headR alone w).length ≤ 2 := by
  unfold headR
  rw [List.length_append]
  split <;> simp
theorem pagR_len (alone : Bool) : ∀ (ws : List (List Int)) (n : Nat), (∀ w ∈ ws, w.length ≤ 4) → (pagR rows cell alone n ws).length ≤ 18 * ws.length
  | [], _, _ => Nat.le_refl _
  | w :: r, n, h => by
    have i1 := pagR_len alone r (n + (headR alone w).length + (wayR rows cell (n + (headR alone w).length) 0 w).length) fun x hx => h x (.tail _ hx)
    have i2 := headR_len alone w
    have i3 := wayR_len (rows := rows) (cell := cell) w (n + (headR alone w).length) 0
    have i4 := h w (.head _)
    rw [pagR, List.length_append, List.length_append, List.length_cons]; lia
theorem sum_len (alone : Bool) (h : rows.length ≤ 4) : (sumPage rows cell alone).length ≤ 90 := by
  obtain ⟨h1, h2⟩ := waysN_small rows.length h
  have := pagR_len (rows := rows) (cell := cell) alone (waysN rows.length).reverse 0 fun w hw => (h2 w (List.mem_reverse.mp hw)).1
  rw [List.length_reverse] at this
  rw [sum_R]; (clear h; lia)
theorem page_len {heights : List Int} (h : rows.length ≤ 4) (hh : heights.length ≤ 20) : (lawPage rows heights cell).length ≤ 210 := by
  have h1 := sum_len (cell := cell) (rows := rows) true h
  have h2 := sum_len (cell := cell) (rows := rows.tail) false (by rw [List.length_tail]; (clear hh h1; omega))
  unfold lawPage
  simp only [List.length_append, List.length_cons, List.length_nil, List.length_map]; (clear h; lia)
end

/-! ## what the walk asks of a page -/
structure Page (P : List Ent) (T : TS) : Prop where
  len : P.length ≤ 1000
  ok : ∀ e ∈ P, EntOk e
  mz : (T.mail ++ ".").cps.size ≤ 100000
  quo : (⟨(quoL true (fixL (T.mail ++ ".").cps.toList)).toArray⟩ : Str) = T.due ++ ".."
  fz : (fixL (T.mail ++ ".").cps.toList).length ≤ 200000
  asc : ∀ c ∈ fixL (T.mail ++ ".").cps.toList, c < 128
  asd : ∀ c ∈ (T.due ++ "..").cps.toList, c < 128
  dz : (T.due ++ "..").length ≤ 100000
  esc : escEnd false (("\"\"" : Str) ++ (T.due ++ "..")).cps.toList = false
  join : Txt.join "" (stParts (("\"\"" : Str) ++ (T.due ++ ".."))) = T.left ++ ".."
  hj : ((stParts (("\"\"" : Str) ++ (T.due ++ ".."))).map (·.length)).sum + (stParts (("\"\"" : Str) ++ (T.due ++ ".."))).length ≤ 1048576
  lz : (T.left ++ "..").length ≤ 100000
  read : readOf (T.left ++ "..") = T.nums ++ [23, 23]
  nz : (T.nums ++ [23, 23]).length ≤ 1000
theorem sign_lt : ∀ c ∈ signs, c < 128 := by decide
theorem fixedR_len : ∀ (P : List Ent), (∀ e ∈ P, EntOk e) → (fixedR P).length ≤ 20 * P.length
  | [], _ => Nat.le_refl _
  | e :: r, h => by
    have ih := fixedR_len r fun x hx => h x (.tail _ hx)
    obtain ⟨h0, h1, h2, _⟩ := h e (.head _)
    rw [fixedR, List.length_append, line_len, List.length_cons, List.length_cons, List.length_cons]; lia
theorem fixedR_asc : ∀ (P : List Ent), (∀ e ∈ P, EntL e) → ∀ c ∈ fixedR P, c < 128
  | [], _, _, h => nomatch h
  | e :: r, h, c, hc => by
    rcases List.mem_append.mp hc with q | q
    · rcases line_chars (h e (.head _)).w c q with h | h | h | h | h | h | h | h <;> lia
    · rcases List.mem_cons.mp q with rfl | q
      · decide
      · rcases List.mem_cons.mp q with rfl | q
        · decide
        · exact fixedR_asc r (fun x hx => h x (.tail _ hx)) c q
theorem page_all {P : List Ent} {sh : Int} (h : PG 0 P) (hn : P.length ≤ 210) : Page P (textsOf P sh) ∧ (textsOf P sh).nums = numsR P := by
  have hok : ∀ e ∈ P, EntOk e := fun e he => (pg_ent h e he).2
  have hel : ∀ e ∈ P, EntL e := fun e he => (pg_ent h e he).1
  obtain ⟨r1, r2, r3⟩ := texts_R P (tsStart sh) hel
  have r4 := left_R h (tsStart sh)
  have t1 : (textsOf P sh).mail.cps.toList = mailR P sh := r1
  have t2 : (textsOf P sh).due.cps.toList = dueR P := r2
  have t3 : (textsOf P sh).nums = numsR P := r3
  have t4 : (textsOf P sh).left.cps.toList = leftR P := r4
  have l1 := mailR_len P sh hok
  have l2 := dueR_len P hok
  have l3 := leftR_len P hok
  have l4 := numsR_len P hok
  have l5 := fixedR_len P hok
  have e1 : ((textsOf P sh).mail ++ ".").cps.toList = mailR P sh ++ [46] := by rw [app_l, t1]; rfl
  have e2 : ((textsOf P sh).due ++ "..").cps.toList = dueR P ++ [46, 46] := by rw [app_l, t2]; rfl
  have e4 : ((textsOf P sh).left ++ "..").cps.toList = leftR P ++ [46, 46] := by rw [app_l, t4]; rfl
  have ex : (("\"\"" : Str) ++ ((textsOf P sh).due ++ "..")).cps.toList = 34 :: 34 :: (dueR P ++ [46, 46]) := by rw [app_l, e2]; rfl
  have hesc : escEnd false (34 :: 34 :: (dueR P ++ [46, 46])) = false := esc_page h
  have hst : flatS (stParts (("\"\"" : Str) ++ ((textsOf P sh).due ++ ".."))) = leftR P ++ [46, 46] := by
    rw [strip_all _ (by rw [ex]; exact hesc), ex]
    exact (strip_page h).1 rfl
  have ef : fixL (mailR P sh ++ [46]) = fixedR P ++ [46] := fix_mail P sh hel
  have hpl := parts_len (("\"\"" : Str) ++ ((textsOf P sh).due ++ ".."))
  have hxl : (("\"\"" : Str) ++ ((textsOf P sh).due ++ "..")).length = (dueR P).length + 4 := by rw [len_l, ex]; simp
  refine ⟨⟨by (clear l1 l2 l3 l4 l5 hesc hpl hxl; lia), hok, ?_, ?_, ?_, ?_, ?_, ?_, ?_, ?_, ?_, ?_, ?_, ?_⟩, t3⟩
  · show ((textsOf P sh).mail ++ ".").length ≤ _
    rw [len_l, e1, List.length_append, List.length_cons, List.length_nil]; (clear l2 l3 l4 l5 hesc hpl hxl; lia)
  · refine str_ext ?_
    rw [e1, e2, sent_due P sh hel]
  · rw [e1, ef, List.length_append, List.length_cons, List.length_nil]; (clear l1 l2 l3 l4 hesc hpl hxl; lia)
  · rw [e1, ef]
    intro c hc
    rcases List.mem_append.mp hc with q | q
    · exact fixedR_asc P hel c q
    · rcases List.mem_cons.mp q with rfl | q
      · decide
      · cases q
  · rw [e2]
    intro c hc
    rcases List.mem_append.mp hc with q | q
    · exact sign_lt c ((signs_page h).2 c q)
    · simp at q; (clear hn l1 l2 l3 l4 l5 hesc hpl hxl; lia)
  · rw [len_l, e2, List.length_append, List.length_cons, List.length_cons, List.length_nil]; (clear l1 l3 l4 l5 hesc hpl; lia)
  · rw [ex]; exact hesc
  · refine str_ext ?_
    rw [joinE_l, hst, e4]
  · rw [← flat_len, hst, List.length_append, List.length_cons, List.length_cons, List.length_nil]; (clear l1 l4 l5 hesc; lia)
  · rw [len_l, e4, List.length_append, List.length_cons, List.length_cons, List.length_nil]; (clear l1 l2 l4 l5 hesc hpl hxl; lia)
  · rw [readOf_rd _ (by
      rw [e4]
      intro c hc
      rcases List.mem_append.mp hc with q | q
      · exact (signs_page h).1 c q
      · simp at q; subst q; decide), e4, read_page h, t3]
  · rw [t3, List.length_append, List.length_cons, List.length_cons, List.length_nil]; (clear l1 l2 l3 l5 hesc hpl hxl; lia)
end Mine
/-! L3 -/
namespace Mine
open PySem PySem.W PySem.Spec PySem.Calls PyProof.Rows PySem.SeqAt
open Builtin.Int (intBits)

theorem kt_bound {t : Int} (ht : t = 1 ∨ t = -1) {n : Nat} : ∀ bs : List Int, (∀ b ∈ bs, 2 ≤ b ∧ b + 1 ≤ 2 ^ n) → Kt t bs ≤ 2 ^ (n * bs.length)
  | [], _ => by show (1 : Int) ≤ _; simp
  | [b], h => by
    have := h b (.head _)
    show b ≤ 2 ^ (n * 1)
    rw [Nat.mul_one]; (clear ht; omega)
  | b :: c :: r, h => by
    have hb := h b (.head _)
    have ih := kt_bound ht (c :: r) fun x hx => h x (.tail _ hx)
    obtain ⟨i1, i2⟩ := kt_grow ht (c :: r) fun x hx => (h x (.tail _ hx)).1
    obtain ⟨j1, _⟩ := kt_grow ht r fun x hx => (h x (.tail _ (.tail _ hx))).1
    have i3 := i2 c r rfl
    have e : Kt t (b :: c :: r) = b * Kt t (c :: r) + t * Kt t r := rfl
    have e1 : Kt t (b :: c :: r) ≤ (b + 1) * Kt t (c :: r) := by
      rw [e, Int.add_mul, Int.one_mul]
      rcases ht with rfl | rfl <;> (clear hb ih i1; lia)
    have e2 : (b + 1) * Kt t (c :: r) ≤ 2 ^ n * 2 ^ (n * (c :: r).length) := Int.mul_le_mul hb.2 ih (by (clear ht hb ih j1 i3 e e1; lia)) (Int.le_of_lt (pow_pos2 n))
    have e3 : n * (b :: c :: r).length = n + n * (c :: r).length := by rw [List.length_cons (a := b), Nat.mul_add, Nat.mul_one, Nat.add_comm]
    rw [e3, Int.pow_add]
    exact Int.le_trans e1 e2
theorem kt_bits {t : Int} (ht : t = 1 ∨ t = -1) {n : Nat} {bs : List Int} (h : ∀ b ∈ bs, 2 ≤ b ∧ b + 1 ≤ 2 ^ n) : 1 ≤ Kt t bs ∧ intBits (Kt t bs) ≤ n * bs.length + 1 := by
  have h1 := kt_bound ht bs h
  have h2 := (kt_grow ht bs fun b hb => (h b hb).1).1
  refine ⟨h2, bits_of_lt (by (clear ht h1; lia)) ?_⟩
  rw [Int.pow_succ]
  have := pow_pos2 (n * bs.length)
  (clear ht h2; lia)

/-- what the walk asks of the numbers -/
structure Nums (told : List Int) (ds : List Int) (A B Cc : List Int) : Prop where
  eq : told = A ++ 13 :: (B ++ 13 :: Cc)
  noA : (13 : Int) ∉ A
  noB : (13 : Int) ∉ B
  up : ∀ high t : Int, t * t = 1 → valueOf Cc high t = Kt t (ds.map (· + 1 + high))
  low : ∀ high t : Int, t * t = 1 → valueOf B high t = Kt t (ds.tail.map (· + 1 + high))
theorem nums_all {rows : List (Int × Str)} (R : Rows rows) (heights : List Int) (cell : Int) : ∃ A B Cc, Nums (numsR (lawPage rows heights cell) ++ [23, 23]) (rows.map (·.1)) A B Cc := by
  refine ⟨numsR ([((1, "", 0) : Ent), ((0, "", 0) : Ent)] ++ heights.map fun h => ((h, "*", 0) : Ent)), numsR (sumPage rows.tail cell false), numsR (sumPage rows cell true) ++ [23, 23], ?_, no_first _, no_low fun r hr => R.v r (List.mem_of_mem_tail hr), fun high t ht => upper_K R ht, fun high t ht => lower_K R ht⟩
  rw [nums_law]
  simp only [List.append_assoc, List.cons_append]
section
variable {told ds A B Cc : List Int} (N : Nums told ds A B Cc)
include N
theorem Nums.i1 : told[A.length]? = some 13 ∧ ∀ m, m < A.length → told[m]? ≠ some 13 := by
  refine ⟨?_, fun m hm q => ?_⟩
  · rw [N.eq]; simp
  · rw [N.eq, List.getElem?_append_left hm] at q
    exact N.noA (List.mem_of_getElem? q)
theorem Nums.d1 : told.drop (A.length + 1) = B ++ 13 :: Cc := by
  rw [N.eq, List.drop_append, List.drop_eq_nil_of_le (Nat.le_succ _), List.nil_append, Nat.add_sub_cancel_left]; rfl
theorem Nums.i2 : (B ++ 13 :: Cc)[B.length]? = some 13 ∧ ∀ m, m < B.length → (B ++ 13 :: Cc)[m]? ≠ some 13 := by
  refine ⟨by simp, fun m hm q => ?_⟩
  rw [List.getElem?_append_left hm] at q
  exact N.noB (List.mem_of_getElem? q)
theorem Nums.d2 : told.drop (A.length + 1 + B.length + 1) = Cc := by
  rw [show A.length + 1 + B.length + 1 = A.length + 1 + (B.length + 1) from Nat.add_assoc _ _ _, ← List.drop_drop, N.d1, List.drop_append, List.drop_eq_nil_of_le (Nat.le_succ _), List.nil_append, Nat.add_sub_cancel_left]; rfl
theorem Nums.d3 : (told.drop (A.length + 1)).take (A.length + 1 + B.length - (A.length + 1)) = B := by
  rw [N.d1, Nat.add_sub_cancel_left, List.take_left]
end

/-- what the walk asks of the dots -/
structure Runs (ds : List Int) : Prop where
  r1 : RunOk (-1) (Kt (-1) (ds.map (· + 1 + 0))) (Kt (-1) (ds.tail.map (· + 1 + 0))) (ds.map (· + 1))
  r2 : RunOk (-1) (Kt (-1) (ds.tail.map (· + 1 + 0))) (Kt (-1) (ds.map (· + 1 + 0))) (1 :: (colsD ds).map (· + 1))
  b1 : intBits (Kt (-1) (ds.map (· + 1 + 0))) ≤ 50000
  b2 : intBits (Kt (-1) (ds.tail.map (· + 1 + 0))) ≤ 50000
  q1 : ∀ q ∈ ds.map (· + 1), intBits q ≤ 10000
  q2 : ∀ q ∈ 1 :: (colsD ds).map (· + 1), intBits q ≤ 10000
  len : ds.length ≤ 4
  cols : ∀ h ∈ colsD ds, 0 ≤ h ∧ h ≤ 4
  clen : (colsD ds).length ≤ 20
  r3 : ∀ (t X U : Int), (t = 1 ∨ t = -1) → 0 ≤ X → 0 < U → RunOk t (U * Kt t (ds.map (· + 1 + X))) (U * Kt t (ds.tail.map (· + 1 + X))) (ds.map (· + 1 + X))
  b3 : ∀ (t X U : Int) (n m : Nat), (t = 1 ∨ t = -1) → 0 ≤ X → 0 < U → X + 5 ≤ 2 ^ n → intBits U ≤ m → m + (n * 4 + 1) ≤ 50000 → intBits (U * Kt t (ds.map (· + 1 + X))) ≤ 50000 ∧ intBits (U * Kt t (ds.tail.map (· + 1 + X))) ≤ 50000 ∧ 0 ≤ U * Kt t (ds.tail.map (· + 1 + X)) ∧ U * Kt t (ds.tail.map (· + 1 + X)) < U * Kt t (ds.map (· + 1 + X))
     ∧ intBits (Kt t (ds.map (· + 1 + X))) ≤ n * 4 + 1 ∧ intBits (Kt t (ds.tail.map (· + 1 + X))) ≤ n * 4 + 1
  q3 : ∀ (X : Int) (n : Nat), 0 ≤ X → X + 5 ≤ 2 ^ n → n ≤ 10000 → ∀ q ∈ ds.map (· + 1 + X), intBits q ≤ 10000
theorem plus0 (ds : List Int) : ds.map (· + 1 + 0) = ds.map (· + 1) := List.map_congr_left fun a zz => Int.add_zero _
theorem runs {ds : List Int} (h : Dots ds) : Runs ds := by
  have hd := dual h
  simp only [dualB, Bool.and_eq_true, List.all_eq_true, decide_eq_true_eq] at hd
  obtain ⟨⟨h1, h2⟩, h3⟩ := hd
  have dd : ∀ d ∈ ds, 1 ≤ d ∧ d ≤ 3 := fun d hd => by rcases h.1 d hd with rfl | rfl | rfl <;> decide
  have hl : ds.length ≤ 4 := by have := h.2; (clear h3 h1; lia)
  have big : ∀ (X : Int) (n : Nat), 0 ≤ X → X + 5 ≤ 2 ^ n → ∀ b ∈ ds.map (· + 1 + X), 2 ≤ b ∧ b + 1 ≤ 2 ^ n := fun X n h0 hn b hb => by
    obtain ⟨d, q, rfl⟩ := List.mem_map.mp hb
    have := dd d q; (clear h3 h1 hl; omega)
  have tl : ∀ X : Int, ds.tail.map (· + 1 + X) = (ds.map (· + 1 + X)).tail := fun X => by rw [List.map_tail]
  have bigt : ∀ (X : Int) (n : Nat), 0 ≤ X → X + 5 ≤ 2 ^ n → ∀ b ∈ ds.tail.map (· + 1 + X), 2 ≤ b ∧ b + 1 ≤ 2 ^ n := fun X n h0 hn b hb => big X n h0 hn b (by rw [tl] at hb; exact List.mem_of_mem_tail hb)
  have r3 : ∀ (t X U : Int), (t = 1 ∨ t = -1) → 0 ≤ X → 0 < U → RunOk t (U * Kt t (ds.map (· + 1 + X))) (U * Kt t (ds.tail.map (· + 1 + X))) (ds.map (· + 1 + X)) := fun t X U ht hX hU => by
    rw [tl]
    have b2 : ∀ b ∈ ds.map (· + 1 + X), 2 ≤ b := fun b hb => by
      obtain ⟨d, q, rfl⟩ := List.mem_map.mp hb
      have := dd d q; (clear h3 h1 hl ht hU; lia)
    cases e : ds.map (· + 1 + X) with
    | nil => exact absurd (List.map_eq_nil_iff.mp e) (fun q => by have := h.2; rw [q] at this; simp at this)
    | cons b r => rw [e] at b2; exact run_kt ht hU b r b2
  have b0 : ∀ (t X : Int) (n : Nat), (t = 1 ∨ t = -1) → 0 ≤ X → X + 5 ≤ 2 ^ n → intBits (Kt t (ds.map (· + 1 + X))) ≤ n * 4 + 1 ∧ intBits (Kt t (ds.tail.map (· + 1 + X))) ≤ n * 4 + 1 := fun t X n ht h0 hn => by
    have i1 := (kt_bits ht (big X n h0 hn)).2
    have i2 := (kt_bits ht (bigt X n h0 hn)).2
    rw [List.length_map] at i1 i2
    rw [List.length_tail] at i2
    have m1 : n * ds.length ≤ n * 4 := Nat.mul_le_mul_left _ hl
    have m2 : n * (ds.length - 1) ≤ n * 4 := Nat.mul_le_mul_left _ (by (clear h3 h1 ht h0 hn i1 i2 m1; omega))
    (clear h3 h1 hl ht h0 hn; lia)
  refine ⟨?_, ?_, ?_, ?_, ?_, ?_, hl, h2, h3, r3, ?_, ?_⟩
  · have := r3 (-1) 0 1 (.inr rfl) (by decide) (by decide)
    rw [Int.one_mul, Int.one_mul] at this
    rw [plus0 ds] at this ⊢
    exact this
  · rw [plus0, plus0]
    exact run_of_B _ _ _ h1
  · exact Nat.le_trans (b0 (-1) 0 3 (.inr rfl) (by decide) (by decide)).1 (by decide)
  · exact Nat.le_trans (b0 (-1) 0 3 (.inr rfl) (by decide) (by decide)).2 (by decide)
  · intro q hq
    obtain ⟨d, hd, rfl⟩ := List.mem_map.mp hq
    have := dd d hd
    exact Nat.le_trans (bits_of_lt (m := 3) (by (clear h3 h1 hl; lia)) (by (clear h3 h1 hl; lia))) (by decide)
  · intro q hq
    rcases List.mem_cons.mp hq with rfl | hq
    · decide
    · obtain ⟨d, hd, rfl⟩ := List.mem_map.mp hq
      have := h2 d hd
      exact Nat.le_trans (bits_of_lt (m := 3) (by (clear h3 h1 hl; lia)) (by (clear h3 h1 hl; lia))) (by decide)
  · intro t X U n m ht hX hU hn hm hs
    obtain ⟨i1, i2⟩ := b0 t X n ht hX hn
    have g := kt_grow ht (ds.map (· + 1 + X)) fun b hb => (big X n hX hn b hb).1
    have g2 := kt_grow ht (ds.tail.map (· + 1 + X)) fun b hb => (bigt X n hX hn b hb).1
    refine ⟨Nat.le_trans (bits_mul hm i1) hs, Nat.le_trans (bits_mul hm i2) hs, Int.mul_nonneg (Int.le_of_lt hU) (by (clear h3 h1 hl ht hX hU hn hm hs i1 i2 g; omega)), Int.mul_lt_mul_of_pos_left ?_ hU, i1, i2⟩
    rw [tl]
    cases e : ds.map (· + 1 + X) with
    | nil => exact absurd (List.map_eq_nil_iff.mp e) (fun q => by have := h.2; rw [q] at this; simp at this)
    | cons b r => rw [e] at g; exact g.2 b r rfl
  · intro X n hX hn hn2 q hq
    obtain ⟨h5, h6⟩ := big X n hX hn q hq
    exact Nat.le_trans (bits_of_lt (m := n) (by (clear h3 h1 hl hX hn hn2 h6; lia)) (by (clear h3 h1 hl hX hn hn2 h5; lia))) hn2
end Mine
/-! L3b -/
namespace Mine
open PySem PySem.W PySem.Spec PySem.Calls PyProof.Rows PySem.SeqAt

section
variable {C : Cx} {F : Fx} {ρ ρ' ρ'' : Store} {K K' : Fl → Store → Prop}
/-- a name gets what a comprehension makes: the name is stored ahead of the comprehension's end -/
theorem w1_listcomp {y : Str} {py spos : Pos} {elt tg iter : Expr} {scope : Scope} {pos : Pos} {cl : List (Str × Addr)} {ds : List D} {g : D → D} {ρc : Store} (he : Ev C F ρ iter (.lst ds)) (hz : ds.length ≤ sizeLine)
    (hclos : closureFor scope F.env = pure cl) (hcl : ∀ x c, cl.lookup x = some c → F.env.cells.lookup x = some c) (hcell : ∀ y ∈ scope.names, y.2 ≠ .cell) (hkind : scope.kind = .function) (hnames : ∀ y ∈ scope.names, y.2 = .local → scope.names.lookup y.1 = some .local)
    (hcap : ∀ x sl, ρc.lookup x = some sl → ∃ d, sl = .val d ∧ ρ.lookup x = some (.val d) ∧ F.env.kindOf x ≠ some .local ∧ (relabel scope F.env).names.lookup x ≠ some .local)
    (turn : ∀ L sc H gens ps se d, d ∈ ds → ∃ ρ'', As C (F.comp scope cl L sc H gens ps se) tg d ρc ρ'' ∧ Sub ρc ρ'' ∧ Ev C (F.comp scope cl L sc H gens ps se) ρ'' elt (g d)) (hk : 1 ≤ F.k)
    (h : K .next ((y, .val (.lst (ds.map g))) :: ρ)) (hl : F.env.kindOf y = some .local) (h0' : C.hd = none := by assumption)
    (hsw : swapsWith (.ListComp elt [⟨tg, iter, [], 0⟩] scope pos) (some (.Name y py)) spos.line F.env = pure true := by rfl)
    (hs : ∀ x, foldedSetIterable iter F.env x = pure x := by intro _; rfl) : W1 C F ρ (.Assign [.Name y py] (.ListComp elt [⟨tg, iter, [], 0⟩] scope pos) spos) K := .mk fun W s f => by
  rw [exec_Assign_Name_used _ _ _ _ hsw]
  refine wpAny_bind (wpAny_standAt (wpAny_bind ?_))
  show wpAny _ F.A (do let _ ← comprehension (.ListComp elt [⟨tg, iter, [], 0⟩] scope pos) scope F.env (firstIterPos [⟨tg, iter, [], 0⟩] pos) (newList []) (firstAsync [⟨tg, iter, [], 0⟩]) (firstIter [⟨tg, iter, [], 0⟩] F.env) (some (assign (.Name y py) F.env))) _ _ s
  refine wpAny_bind (wpAny_mono (comp_core he hz hclos hcl hcell hkind hnames hcap turn hk h0' hs f (use := some (assign (.Name y py) F.env)) (Q := fun zz s' => End C F K .next s') (E := fun zz zz => False) fun D L s' vs k m x hD hL hDL eD hn r => ?_) (fun zz s' hq => wpAny_pure (wpAny_pure hq)) fun zz zz e => e)
  show wpAny _ F.A (assign (.Name y py) F.env (.ref D)) _ _ _
  obtain ⟨oL, es, ep, eL, hdL, rL⟩ := hn
  obtain ⟨oF, fs, fp, eF, hdF, rF⟩ := (f.ex x).ns
  have nLl : L ≠ F.env.locals := fun q => by obtain ⟨o, _, _, e, _⟩ := f.ns; rw [← q, hL] at e; cases e
  have nDl : D ≠ F.env.locals := fun q => by obtain ⟨o, _, _, e, _⟩ := f.ns; rw [← q, hD] at e; cases e
  have nDh : ¬ W.hid D := fun q => by obtain ⟨o, e⟩ := f.bd D q; rw [hD] at e; cases e
  refine wpAny_assign_Name (wpAny_storeName_local hl ⟨oF, fs, fp, eF, hdF, rF⟩ (fun h₂ hn₂ hs₂ => ?_) (stp f.kind))
  have eL₂ : h₂.get? L = some oL := (hs₂.2 L nLl).trans eL
  refine ⟨m, ⟨oL, es, ep, eL₂, hdL, rL⟩, fun h₃ hs₃ => ?_⟩
  have hn₃ := hn₂.sameBut hs₃ (Ne.symm nLl)
  obtain ⟨o₃, _, _, e₃, _⟩ := id hn₃
  -- the heap as it would be had the name not been stored
  obtain ⟨hx, hhx⟩ : ∃ hx, h₃.update F.env.locals (fun zz => oF) = hx := ⟨_, rfl⟩
  have x0 : hx.get? F.env.locals = some oF := hhx ▸ Heap.get?_update_self (fun zz => oF) e₃ (Obj.isFreed_of_dict hdF)
  have x1 : ∀ b, b ≠ F.env.locals → hx.get? b = h₃.get? b := fun b hb => hhx ▸ Heap.get?_update_other _ _ (Ne.symm hb)
  have x2 : ∀ b o, b ≠ L → s'.heap.get? b = some o → hx.get? b = some o := fun b o hb e => by
    by_cases q : b = F.env.locals
    · rw [q] at e ⊢; rw [eF] at e; cases e; exact x0
    · exact (x1 b q).trans ((hs₃.2 b hb).trans ((hs₂.2 b q).trans e))
  have x3 : Ex C s { s' with heap := hx, toks := s'.toks } := ⟨x.gd.same (a := L) (x.gd.off eL (fun vs q => by rw [hdL] at q; cases q)) eL (fun vs q => by rw [hdL] at q; cases q) (f.free (f.fresh hL)) x2, fun b o n e => x2 b o (fun q => by rw [q, hL] at e; cases e) (x.keep b o n e), x.gens⟩
  have r' : Rps W.hid hx vs.toList (ds.map g) := r.mono fun b ob nb e zz => ⟨fun q => nb (.inl q), x2 b ob (fun q => nb (.inr q)) e⟩
  have fp := (f.ex x3).put (h' := h₃) (tk := s'.toks + 1) (x := y) (v := .ref D) (sl := .val (.lst (ds.map g))) hl (.lst nDh (x2 D _ hDL eD) ⟨rfl, rfl, ⟨k, rfl⟩, rfl⟩ (vs := vs.toList) r') (fun es q => by cases q) ?_ ⟨by rw [← hhx, Heap.size_update], fun b hb => (x1 b hb).symm⟩
  · exact ⟨_, _, .next, fp, .next, h⟩
  · exact hn₃
end
end Mine
/-! L4 -/
namespace Mine
open PySem PySem.W PySem.Spec PySem.Calls PyProof.Rows PySem.SeqAt
open Builtin.Int (intBits)

noncomputable abbrev P_law : {d : DefRec // defOf pw "law" = some (d, [])} := ⟨_, rfl⟩
noncomputable abbrev R_law : DefRec := P_law.1
noncomputable abbrev lawF (L a : Addr) (cd : Value) (A : Around) (s : Shared) (hid : Addr → Prop) : Fx := Fx.fnc (envOfC "law" R_law.scope L a cd) A 40 s hid
theorem slc_fromI {C : Cx} {ns ms : List Int} {k : Nat} (hz : ns.length ≤ 1000) (e : ns.drop k = ms) : Slc C (.lst (lI ns)) (some (k : Int)) none none (.lst (lI ms)) := by
  have hsl : (1000 : Nat) ≤ sizeLine := by decide
  have := slc_from (C := C) (ds := lI ns) (k := k) (by rw [ints_len]; lia)
  rw [show (lI ns).drop k = lI ms by rw [← e]; exact (List.map_drop).symm] at this
  exact this
theorem slc_fromtoI {C : Cx} {ns ms : List Int} {k m : Nat} (hz : ns.length ≤ 1000) (e : (ns.drop k).take (m - k) = ms) : Slc C (.lst (lI ns)) (some (k : Int)) (some (m : Int)) none (.lst (lI ms)) := by
  have hsl : (1000 : Nat) ≤ sizeLine := by decide
  have := slc_fromto (C := C) (ds := lI ns) (k := k) (m := m) (by rw [ints_len]; lia)
  rw [show ((lI ns).drop k).take (m - k) = lI ms by rw [← e]; unfold lI; rw [← List.map_drop, ← List.map_take]] at this
  exact this
noncomputable def dotPlus (X : Int) : D → D
  | .tup (.int i :: _) => .int (i + 1 + X)
  | d => d
noncomputable def dotPlus1 : D → D
  | .tup (.int i :: _) => .int (i + 1)
  | d => d
theorem dotPlus_l (X : Int) (rows : List (Int × Str)) {ds : List Int} (e : rows.map (·.1) = ds) : (rows.map rowD).map (dotPlus X) = lI (ds.map (· + 1 + X)) := by
  subst e; unfold lI; simp only [List.map_map]; rfl
theorem dotPlus1_l (rows : List (Int × Str)) {ds : List Int} (e : rows.map (·.1) = ds) : (rows.map rowD).map dotPlus1 = lI (ds.map (· + 1)) := by
  subst e; unfold lI; simp only [List.map_map]; rfl
noncomputable def intPlus1 : D → D
  | .int i => .int (i + 1)
  | d => d

/-- what holds between the two signs -/
noncomputable def LtI (σ : Store) (ts : List Int) (ρ' : Store) : Prop := (∀ t ∈ ts, t = 1 ∨ t = -1) ∧ Sub σ ρ'
noncomputable abbrev ltσ (ds told : List Int) (X U : Int) (a b : Nat) : Store := [("great", .val (.lst (lI (ds.map (· + 1 + X))))), ("unit", .val (.int U)), ("base", .val (.int X)), ("start", .val (.int ((a + 1 : Nat) : Int))), ("stop", .val (.int ((a + 1 + b : Nat) : Int))), ("told", .val (.lst (lI told)))]
set_option maxHeartbeats 2000000 in
theorem law_tail {C : Cx} (pr : Pr C) (pc : PrC C) (h0 : C.hd = none) {script cells told ds heights A1 B1 C1 : List Int} {rows : List (Int × Str)} {c4 : Int} (N : Nums told ds A1 B1 C1) (R : Runs ds) (hrows : rows.map (·.1) = ds) (hh : heights = colsD ds) (hz : told.length ≤ 1000) (hc4 : cells[4]? = some c4)
    {L a : Addr} {cd : Value} {A : Around} {s : Shared} {hid : Addr → Prop} (hA : A.frames = some []) :
    Ws C (lawF L a cd A s hid) [("told", .val (.lst (lI told))), ("rows", .val (rowsD rows)), ("heights", .val (.lst (lI heights))), ("cells", .val (.lst (lI cells))), ("script", .val (.lst (lI script)))] (R_law.body.drop 10) (fun fl zz => fl = .ret (.bool true)) := by
  have hsl : (1000 : Nat) ≤ sizeLine := by decide
  have hl := congrArg List.length N.eq
  simp only [List.length_append, List.length_cons] at hl
  have hFA : ∀ ps se, ((lawF L a cd A s hid).on ps se).A.frames = some [((lawF L a cd A s hid).on ps se).env] := fun zz zz => Around.frames_deeper hA
  have rl : rows.length ≤ 4 := by have := congrArg List.length hrows; rw [List.length_map] at this; have := R.len; (clear hz hsl hl; lia)
  refine ws_cons (w1_assign (d := .int ((A1.length + 1 : Nat) : Int)) (Ev.cast rfl (ev_bin (ev_meth (T := "list") (vl (d := .lst (lI told))) (evs_cons ev_int evs_nil) rfl (call_index N.i1.1 N.i1.2 (by (clear rl; lia))) kle PySem.F.plainAttrs_list PySem.F.slot_list_index PySem.F.type_list_index) ev_int bin_add kle)) ?_ rfl)
  refine ws_cons (w1_assign (d := .int ((A1.length + 1 + B1.length : Nat) : Int)) (Ev.cast rfl (ev_bin (vl (d := .int ((A1.length + 1 : Nat) : Int))) (ev_meth (T := "list") (ev_slice (vl (d := .lst (lI told))) (.some vl) .none .none (slc_fromI hz N.d1) trivial kle) (evs_cons ev_int evs_nil) rfl (call_index N.i2.1 N.i2.2 (by simp only [List.length_append, List.length_cons]; (clear rl; lia))) kle PySem.F.plainAttrs_list PySem.F.slot_list_index PySem.F.type_list_index) bin_add kle)) ?_ rfl)
  have tv : ∀ (ns : List Int) (X t : Int), ns.length ≤ 1000 → intBits X ≤ 4990 → (t = 1 ∨ t = -1) → Does C "_law_value" 2 [.lst (lI ns), .int X, .int t] (.int (valueOf ns X t)) := fun ns X t h1 h2 h3 => t_value pr h0 ns X t h1 h2 h3
  have hB : B1.length ≤ 1000 := by (clear hsl rl; lia)
  have hC : C1.length ≤ 1000 := by (clear hsl rl; lia)
  refine ws_cons (w1_assign (d := .int (Kt (-1) (ds.map (· + 1 + 0)))) (Ev.cast (congrArg D.int (N.up 0 (-1) rfl)) (ev_call (tv C1 0 (-1) hC (by decide) (.inr rfl)) (evs_cons (ev_slice (vl (d := .lst (lI told))) (.some (Ev.cast (b := .int ((A1.length + 1 + B1.length : Nat) + 1 : Int)) rfl (ev_bin vl ev_int bin_add kle))) .none .none (slc_fromI (k := A1.length + 1 + B1.length + 1) hz N.d2) trivial kle) (evs_cons ev_int (evs_cons (ev_un ev_int un_neg kle) evs_nil))) kle rfl)) ?_ rfl)
  refine ws_cons (w1_assign (d := .int (Kt (-1) (ds.tail.map (· + 1 + 0)))) (Ev.cast (congrArg D.int (N.low 0 (-1) rfl)) (ev_call (tv B1 0 (-1) hB (by decide) (.inr rfl)) (evs_cons (ev_slice (vl (d := .lst (lI told))) (.some vl) (.some vl) .none (slc_fromtoI (k := A1.length + 1) (m := A1.length + 1 + B1.length) hz N.d3) trivial kle) (evs_cons ev_int (evs_cons (ev_un ev_int un_neg kle) evs_nil))) kle rfl)) ?_ rfl)
  refine ws_sub (ρ' := [("upper", .val (.int (Kt (-1) (ds.map (· + 1 + 0))))), ("lower", .val (.int (Kt (-1) (ds.tail.map (· + 1 + 0))))), ("start", .val (.int ((A1.length + 1 : Nat) : Int))), ("stop", .val (.int ((A1.length + 1 + B1.length : Nat) : Int))), ("told", .val (.lst (lI told))), ("rows", .val (rowsD rows)), ("heights", .val (.lst (lI heights))), ("cells", .val (.lst (lI cells))), ("script", .val (.lst (lI script)))]) ⟨rfl, rfl, rfl, rfl, rfl, rfl, rfl, rfl, rfl, trivial⟩ ?_
  generalize hKu : Kt (-1) (ds.map (· + 1 + 0)) = Ku
  generalize hKl : Kt (-1) (ds.tail.map (· + 1 + 0)) = Kl
  have r1 := R.r1
  have r2 := R.r2
  have b1 := R.b1
  have b2 := R.b2
  rw [hKu] at r1 r2 b1
  rw [hKl] at r1 r2 b2
  have rowt : ∀ d ∈ rows.map rowD, ∃ i w, d = .tup [.int i, .str w] := fun d hd => by
    obtain ⟨r, _, rfl⟩ := List.mem_map.mp hd
    exact ⟨_, _, rfl⟩
  -- rows and columns are told
  refine ws_skipF (tsf_not (tsf_run pr pc h0 (t := -1) (.inr rfl) r1 (by rw [List.length_map]; have := R.len; (clear hz hsl hl rl hB hC hKu hKl b1 b2; lia)) b1 b2 R.q1 (hFA [] []) rfl kle rfl (evs_cons vl (evs_cons vl (evs_cons (Ev.cast (congrArg D.lst (dotPlus1_l rows hrows)) (ev_listcomp (g := dotPlus1) (ρc := []) (cl := []) (ds := rows.map rowD) vl (by rw [List.length_map]; (clear hz hl hB hC hKu hKl b1 b2; lia)) rfl nofun (by decide) rfl (by decide) nofun (fun L' sc H gens ps se d hd => ?_) kle)) (evs_cons (ev_un ev_int un_neg kle) evs_nil)))))) ?_
  · obtain ⟨i, w, rfl⟩ := rowt d hd
    exact ⟨_, as_tuple (.cons (as_name rfl) (.cons (as_name rfl) .nil rfl) rfl), trivial, ev_bin vl ev_int bin_add kle⟩
  refine ws_skipF (tsf_not (tsf_run pr pc h0 (t := -1) (.inr rfl) r2 (by rw [List.length_cons, List.length_map]; have := R.clen; (clear hz hsl hl rl hB hC hKu hKl b1 b2; lia)) b2 b1 R.q2 (hFA [] []) rfl kle rfl (evs_cons vl (evs_cons vl (evs_cons (Ev.cast ?_ (ev_bin (ev_list (evs_cons (d := .int 1) ev_int evs_nil) kle) (ev_listcomp (g := intPlus1) (ρc := []) (cl := []) (ds := lI heights) vl (by rw [ints_len, hh]; have := R.clen; (clear hz hl rl hB hC hKu hKl b1 b2; lia)) rfl nofun (by decide) rfl (by decide) nofun (fun L' sc H gens ps se d hd => ?_) kle) (bin_ladd ?_) kle)) (evs_cons (ev_un ev_int un_neg kle) evs_nil)))))) ?_
  · subst hh; unfold lI; simp only [List.map_map, List.map_cons]; rfl
  · obtain ⟨i, _, rfl⟩ := List.mem_map.mp hd
    exact ⟨_, as_name rfl, trivial, ev_bin vl ev_int bin_add kle⟩
  · rw [List.length_map, ints_len, hh]; have := R.clen; show 1 + _ ≤ _; (clear hz hl rl hB hC hKu hKl b1 b2; lia)
  -- the width, the base, the unit
  have hw := fmod_lt (a := script.sum * 1339) (b := 4400) (by decide)
  obtain ⟨wn, ew, hw5, hw9⟩ : ∃ wn : Nat, 5 + (script.sum * 1339).fmod 4400 = (wn : Int) ∧ 5 ≤ wn ∧ wn ≤ 4404 := ⟨(5 + (script.sum * 1339).fmod 4400).toNat, by (clear hz hsl hl rl hB hC hKu hKl b1 b2; omega), by (clear hz hsl hl rl hB hC hKu hKl b1 b2; omega), by (clear hz hsl hl rl hB hC hKu hKl b1 b2; omega)⟩
  refine ws_cons (w1_assign (d := .int (wn : Int)) (Ev.cast (congrArg D.int ew) (ev_bin ev_int (ev_bin (ev_bin (ev_call_bi pr.sum bt_sum (evs_cons (vl (d := .lst (lI script))) evs_nil) call_sum kle rfl) ev_int (bin_mul (.of_right (by decide))) kle) ev_int (bin_mod (by decide)) kle) bin_add kle)) ?_ rfl)
  have p32 : (32 : Int) ≤ 2 ^ wn := by
    have := Int.pow_add 2 5 (wn - 5)
    rw [show 5 + (wn - 5) = wn by (clear hz hsl hl rl hB hC hKu hKl b1 b2 hw5 hw9 this; omega)] at this
    have h1 := pow_pos2 (wn - 5)
    rw [this]; (clear hz hsl hl rl hB hC hKu hKl b1 b2 hw ew hw5 hw9 this; lia)
  obtain ⟨X, hX⟩ : ∃ X : Int, 2 ^ wn - 7 = X := ⟨_, rfl⟩
  have hbx : intBits X ≤ 4404 := Nat.le_trans (bits_of_lt (m := wn) (by (clear hz hsl hl rl hB hC hKu hKl b1 b2 hw ew hw5 hw9; lia)) (by (clear hz hsl hl rl hB hC hKu hKl b1 b2 hw ew hw5 hw9 p32; omega))) hw9
  refine ws_cons (w1_assign_c (d := .int X) (Ev.cast (congrArg D.int (by rw [Int.toNat_natCast]; exact hX)) (ev_bin (ev_bin ev_int (vl (d := .int (wn : Int))) (bin_pow (by (clear hz hsl hl rl hB hC hKu hKl b1 b2 hw5 hw9 p32 hX hbx; omega)) (by rw [show Builtin.Int.intBits 2 = 2 by decide]; (clear hz hsl hl rl hB hC hKu hKl b1 b2 hw5 hw9 p32 hX hbx; omega))) kle) ev_int bin_sub kle)) ?_ rfl rfl rfl)
  obtain ⟨hn, ehn, hhn⟩ : ∃ hn : Nat, ((wn : Int) + 1).fdiv 2 = (hn : Int) ∧ hn ≤ wn := ⟨(((wn : Int) + 1).fdiv 2).toNat, by rw [fdiv_pos (by decide)]; (clear hz hsl hl rl hB hC hKu hKl b1 b2 hw5 hw9 p32 hX hbx; lia), by rw [fdiv_pos (by decide)]; (clear hz hsl hl rl hB hC hKu hKl b1 b2 hw5 hw9 p32 hX hbx; omega)⟩
  have hm4 := fmod_lt (a := c4) (b := X) (by (clear hz hsl hl rl hB hC hKu hKl b1 b2 hw ew hw5 hw9 hbx ehn hhn; omega))
  obtain ⟨U, hU⟩ : ∃ U : Int, X + 2 ^ hn - c4.fmod X = U := ⟨_, rfl⟩
  have ph := pow_pos2 hn
  have phw : (2 : Int) ^ hn ≤ 2 ^ wn := by
    have := Int.pow_add 2 hn (wn - hn)
    rw [show hn + (wn - hn) = wn by (clear hz hsl hl rl hB hC hKu hKl b1 b2 hw ew hw5 hw9 p32 hX hbx ehn hm4 hU ph this; grind)] at this
    have h1 := pow_pos2 (wn - hn)
    rw [this]
    have := Int.mul_le_mul_of_nonneg_left (show (1 : Int) ≤ 2 ^ (wn - hn) by (clear hz hsl hl rl hB hC hKu hKl b1 b2 hw ew hw5 hw9 p32 hX hbx ehn hhn hm4 hU ph this; lia)) (Int.le_of_lt ph)
    (clear hz hsl hl rl hB hC hKu hKl b1 b2 hw ew hw5 hw9 p32 hX hbx ehn hhn hm4 hU ph h1; lia)
  have hU0 : 0 < U := by (clear hz hsl hl rl hB hC hKu hKl b1 b2 hw ew hw5 hw9 p32 hX hbx ehn hhn phw; omega)
  have hbU : intBits U ≤ 4405 := Nat.le_trans (bits_of_lt (m := wn + 1) (by (clear hz hsl hl rl hB hC hKu hKl b1 b2 hw ew hw5 hw9 p32 hX hbx ehn hhn hm4 hU ph phw; lia)) (by rw [Int.pow_succ]; (clear hz hsl hl rl hB hC hKu hKl b1 b2 hw ew hw5 hw9 p32 hbx ehn hhn ph hU0; omega))) (by (clear hz hsl hl rl hB hC hKu hKl b1 b2 hw5 hw9 p32 hX hbx ehn hhn hm4 hU ph phw hU0; omega))
  refine ws_cons (w1_assign (d := .int U) (Ev.cast (congrArg D.int hU) (ev_bin (ev_bin (ev_cell (d := .int X) rfl rfl rfl) (ev_bin (d := .int (2 ^ hn)) ev_int (Ev.cast (congrArg D.int ehn) (ev_bin (ev_bin (vl (d := .int (wn : Int))) ev_int bin_add kle) ev_int (bin_floordiv (by decide) ?_) kle)) (bin_pow (b := (hn : Int)) (by (clear hz hsl hl rl hB hC hKu hKl b1 b2 hw ew hw5 hw9 p32 hX hbx ehn hhn hm4 hU ph phw hU0 hbU; lia)) (by rw [show Builtin.Int.intBits 2 = 2 by decide]; (clear hz hsl hl rl hB hC hKu hKl b1 b2 hw5 hw9 p32 hX hbx ehn hm4 hU ph phw hU0 hbU; omega))) kle) bin_add kle) (ev_bin (ev_sub (vl (d := .lst (lI cells))) ev_int (itm_list (d := .int c4) (by decide) (by decide) ?_) trivial kle) (ev_cell (d := .int X) rfl rfl rfl) (bin_mod (by (clear hz hsl hl rl hB hC hKu hKl b1 b2 hw ew hw5 hw9 hbx ehn hhn hm4 ph phw hU0 hbU; lia))) kle) bin_sub kle)) ?_ rfl)
  · rw [Builtin.divisionGoesByPylong]; exact Bool.and_eq_false_iff.mpr (.inl rfl)
  · show (lI cells)[4]? = _
    unfold lI; rw [List.getElem?_map, hc4]; rfl
  refine ws_cons (w1_listcomp (g := dotPlus X) (ρc := [("base", .val (.int X))]) (ds := rows.map rowD) vl (by rw [List.length_map]; (clear hz hl hB hC hKu hKl b1 b2 hw ew hw5 hw9 p32 hX hbx ehn hhn hm4 hU ph phw hU0 hbU; lia)) rfl (fun x c h => h) (by decide) rfl (by decide) (fun x sl h => ?_) (fun L' sc H gens ps se d hd => ?_) kle ?_ rfl)
  · have h1 := lookup_mem h
    rcases List.mem_cons.mp h1 with h1 | h1
    · cases h1
      exact ⟨_, rfl, rfl, show (some NameKind.cell : Option NameKind) ≠ some .local by decide, show (some NameKind.cell : Option NameKind) ≠ some .local by decide⟩
    · cases h1
  · obtain ⟨i, w, rfl⟩ := rowt d hd
    exact ⟨_, as_tuple (.cons (as_name rfl) (.cons (as_name rfl) .nil rfl) rfl), ⟨rfl, trivial⟩, ev_bin (ev_bin vl ev_int bin_add kle) (ev_cell (d := .int X) rfl rfl rfl) bin_add kle⟩
  rw [dotPlus_l X rows hrows]
  have p5 : X + 5 ≤ 2 ^ wn := by (clear hz hsl hl rl hB hC hKu hKl b1 b2 hw ew hw5 hw9 p32 hbx ehn hhn hm4 hU ph phw hU0 hbU; lia)
  refine ws_sub (ρ' := ltσ ds told X U A1.length B1.length) ⟨rfl, rfl, rfl, rfl, rfl, rfl, trivial⟩ ?_
  refine ws_forM (xs := [1, -1]) D.int (LtI (ltσ ds told X U A1.length B1.length)) (evit_list (ev_list (evs_cons ev_int (evs_cons (ev_un ev_int un_neg kle) evs_nil)) kle))
    ⟨by decide, rfl, rfl, rfl, rfl, rfl, rfl, trivial⟩ ?_ ?_ kle
  · rintro ps se t ts ρ' ⟨hts, hS⟩
    have ht := hts t (.head _)
    have htt : t * t = 1 := by rcases ht with rfl | rfl <;> rfl
    obtain ⟨c1, c2, c3, c4', c5, c6⟩ := R.b3 t X U wn 4405 ht (by (clear hz hsl hl rl hB hC hKu hKl b1 b2 hw ew hw5 hw9 hbx ehn hhn hm4 ph phw hU0 hbU p5 ht htt; lia)) hU0 p5 hbU (by (clear hz hsl hl rl hB hC hKu hKl b1 b2 hw5 hw9 p32 hX hbx ehn hhn hm4 hU ph phw hU0 hbU p5 ht htt; omega))
    have rr := R.r3 t X U ht (by (clear hz hsl hl rl hB hC hKu hKl b1 b2 hw ew hw5 hw9 hbx ehn hhn hm4 ph phw hU0 hbU p5 ht htt c1 c2 c3 c4' c5 c6; lia)) hU0
    have q3 := R.q3 X wn (by (clear hz hsl hl rl hB hC hKu hKl b1 b2 hw ew hw5 hw9 hbx ehn hhn hm4 ph phw hU0 hbU p5 ht htt c1 c2 c3 c4' c5 c6; lia)) p5 (by (clear hz hsl hl rl hB hC hKu hKl b1 b2 hw5 hw9 p32 hX hbx ehn hhn hm4 hU ph phw hU0 hbU p5 ht htt c1 c2 c3 c4' c5 c6; omega))
    have n1 := N.up X t htt
    have n2 := N.low X t htt
    refine ⟨_, as_sub hS (as_name rfl), ?_⟩
    generalize hV : Kt t (ds.map (· + 1 + X)) = V at *
    generalize hV2 : Kt t (ds.tail.map (· + 1 + X)) = V2 at *
    refine ws_cons (w1_assign (d := .int (U * V)) (ev_bin vl (Ev.cast (congrArg D.int n1) (ev_call (tv C1 X t hC (by (clear hz hsl hl rl hB hC hKu hKl b1 b2 hw ew hw5 hw9 p32 hX ehn hhn hm4 hU ph phw hU0 hbU p5 ht htt hV c1 c5 n1 hV2 c2 c3 c6 n2 c4'; lia)) ht) (evs_cons (ev_slice (vl (d := .lst (lI told))) (.some (Ev.cast (b := .int ((A1.length + 1 + B1.length : Nat) + 1 : Int)) rfl (ev_bin vl ev_int bin_add kle))) .none .none (slc_fromI (k := A1.length + 1 + B1.length + 1) hz N.d2) trivial kle) (evs_cons (ev_cell (d := .int X) rfl rfl rfl) (evs_cons (vl (d := .int t)) evs_nil))) kle rfl)) (bin_mul (mulOk_of_bits hbU c5 (by (clear hz hsl hl rl hB hC hKu hKl b1 b2 hw5 hw9 p32 hX hbx ehn hhn hm4 hU ph phw hU0 hbU p5 ht htt hV c1 c5 n1 hV2 c2 c3 c6 n2 c4'; omega)))) kle) ?_ rfl)
    refine ws_cons (w1_assign (d := .int (U * V2)) (ev_bin vl (Ev.cast (congrArg D.int n2) (ev_call (tv B1 X t hB (by (clear hz hsl hl rl hB hC hKu hKl b1 b2 hw ew hw5 hw9 p32 hX ehn hhn hm4 hU ph phw hU0 hbU p5 ht htt hV c1 c5 n1 hV2 c2 c3 c6 n2 c4'; lia)) ht) (evs_cons (ev_slice (vl (d := .lst (lI told))) (.some vl) (.some vl) .none (slc_fromtoI (k := A1.length + 1) (m := A1.length + 1 + B1.length) hz N.d3) trivial kle) (evs_cons (ev_cell (d := .int X) rfl rfl rfl) (evs_cons (vl (d := .int t)) evs_nil))) kle rfl)) (bin_mul (mulOk_of_bits hbU c6 (by (clear hz hsl hl rl hB hC hKu hKl b1 b2 hw5 hw9 p32 hX hbx ehn hhn hm4 hU ph phw hU0 hbU p5 ht htt hV c1 c5 n1 hV2 c2 c3 c6 n2 c4'; omega)))) kle) ?_ rfl)
    obtain ⟨k, hk, T⟩ := t_idm pr pc (a := U * V2) (b := U * V) h0 (by (clear hz hsl hl rl hB hC hKu hKl b1 b2 hw ew hw5 hw9 p32 hX hbx ehn hhn hm4 hU ph phw hU0 hbU p5 ht htt hV c1 c5 n1 hV2 c2 c6 n2; lia)) (by (clear hz hsl hl rl hB hC hKu hKl b1 b2 hw ew hw5 hw9 p32 hX hbx ehn hhn hm4 hU ph phw hU0 hbU p5 ht htt hV c1 c5 n1 hV2 c3 c6 n2 c4'; lia)) (by (clear hz hsl hl rl hB hC hKu hKl b1 b2 hw ew hw5 hw9 p32 hX hbx ehn hhn hm4 hU ph phw hU0 hbU p5 ht htt hV c5 n1 hV2 c2 c3 c6 n2 c4'; lia))
    obtain ⟨f1, f2⟩ := fdm (a := U * V2) (b := U * V) (q := 0) (r := U * V2) (by (clear hz hsl hl rl hB hC hKu hKl b1 b2 hw ew hw5 hw9 p32 hX hbx ehn hhn hm4 hU ph phw hU0 hbU p5 ht htt hV c1 c5 n1 hV2 c2 c3 c6 n2 c4' hk; lia)) (.inl ⟨by (clear hz hsl hl rl hB hC hKu hKl b1 b2 hw ew hw5 hw9 p32 hX hbx ehn hhn hm4 hU ph phw hU0 hbU p5 ht htt hV c1 c5 n1 hV2 c2 c6 n2 hk; omega), c3, c4'⟩)
    rw [f1, f2] at T
    refine ws_skipF (tsf_or (tsf_not (tsf_run pr pc h0 (t := t) ht rr (by rw [List.length_map]; have := R.len; (clear hz hsl hl rl hB hC hKu hKl b1 b2 hw ew hw5 hw9 p32 hX hbx ehn hhn hm4 hU ph phw hU0 hbU p5 ht htt hV c1 c5 n1 hV2 c2 c3 c6 n2 c4' hk f1 f2; lia)) c1 c2 q3 (hFA ps se) rfl kle rfl (evs_cons vl (evs_cons vl (evs_cons vl (evs_cons vl evs_nil)))))) (TsF.of (Ts.cast (by simp) (ts_cmp (ev_call T (evs_cons vl (evs_cons vl evs_nil)) (Nat.le_trans hk kle) rfl) (ev_tuple (evs_cons (d := .int 0) ev_int (evs_cons (vl (d := .int (U * V2))) evs_nil)) kle) (cmp_tne (ns := [0, U * V2]) (ms := [0, U * V2])) kle)))) ?_
    exact ws_nil ⟨fun x hx => hts x (.tail _ hx), rfl, rfl, rfl, rfl, rfl, rfl, trivial⟩
  · rintro ρ' _
    exact ws_cons (w1_ret ev_bool rfl)
end Mine
/-! L5 -/
namespace Mine
open PySem PySem.W PySem.Spec PySem.Calls PyProof.Rows PySem.SeqAt
open Builtin.Int (intBits)

noncomputable def rowG : D → D
  | .int c => rowD (rowOf c)
  | d => d
noncomputable def starG : D → D
  | .int h => entD (h, "*", 0)
  | d => d
theorem rowG_l (cs : List Int) : (lI cs).map rowG = (cs.map rowOf).map rowD := by
  unfold lI; simp only [List.map_map]; rfl
theorem starG_l (hs : List Int) : (lI hs).map starG = (hs.map fun h => ((h, "*", 0) : Ent)).map entD := by
  unfold lI; simp only [List.map_map]; rfl
theorem bytes_back {l : List Nat} (h : ∀ c ∈ l, c < 128) : (l.map (·.toUInt8)).map (·.toNat) = l := by
  rw [List.map_map]
  conv => rhs; rw [← List.map_id l]
  exact List.map_congr_left fun c hc => by
    have := h c hc
    show (c.toUInt8).toNat = c
    rw [Nat.toUInt8, UInt8.toNat_ofNat']
    exact Nat.mod_eq_of_lt (by lia)
theorem cells7 (script : List Int) : ∃ c0 c1 c2 c3 c4 c5 c6, cellsOf script = [c0, c1, c2, c3, c4, c5, c6] := by
  have h := cellsAt_len script firsts []
  have h : (cellsOf script).length = 7 := h
  match cellsOf script, h with
  | [c0, c1, c2, c3, c4, c5, c6], _ => exact ⟨_, _, _, _, _, _, _, rfl⟩
theorem rows_all {c0 : Int} {cs : List Int} {m : Nat} (hm : m = 3 + (c0.fmod 3).toNat) {l : List Int} (hl : l.length = 7) (e : (l.drop 1).take (m - 1) = cs) : Rows (cs.map rowOf) := by
  have h3 := fmod_lt (a := c0) (b := 3) (by decide)
  have hc : cs.length = m - 1 := by rw [← e, List.length_take, List.length_drop]; grind
  refine ⟨fun r hr => ?_, fun d hd => ?_, ?_⟩
  · obtain ⟨c, _, rfl⟩ := List.mem_map.mp hr
    exact row_RowV c
  · obtain ⟨r, hr, rfl⟩ := List.mem_map.mp hd
    obtain ⟨c, _, rfl⟩ := List.mem_map.mp hr
    exact row_dots c
  · rw [List.length_map, List.length_map]; (clear hl; lia)

set_option maxHeartbeats 2000000 in
theorem law_walk {C : Cx} (pr : Pr C) (pc : PrC C) (pt : PrT C) (tk : Tk C "EXACT_TOKEN_TYPES" tokF) (h0 : C.hd = none) (script : List Int) (hs : script.length ≤ 63)
    {L a : Addr} {cd : Value} {A : Around} {s : Shared} {hid : Addr → Prop} (hA : A.frames = some []) :
    Ws C (lawF L a cd A s hid) [("script", .val (.lst (lI script)))] R_law.body (fun fl zz => fl = .ret (.bool true)) := by
  have hsl : (1000000 : Nat) ≤ sizeLine := by decide
  refine ws_cons (w1_assign (d := .lst (lI (cellsOf script))) (ev_call (t_cells pr h0 script hs) (evs_cons (vl (d := .lst (lI script))) evs_nil) kle rfl) ?_ rfl)
  obtain ⟨c0, c1, c2, c3, c4, c5, c6, ec⟩ := cells7 script
  rw [ec]
  obtain ⟨m, hm⟩ : ∃ m, m = 3 + (c0.fmod 3).toNat := ⟨_, rfl⟩
  have h3 := fmod_lt (a := c0) (b := 3) (by decide)
  obtain ⟨cells, ecl⟩ : ∃ cells, cells = [c0, c1, c2, c3, c4, c5, c6] := ⟨_, rfl⟩
  obtain ⟨cs, ecs⟩ : ∃ cs, (cells.drop 1).take (m - 1) = cs := ⟨_, rfl⟩
  have hcl : cells.length = 7 := by rw [ecl]; rfl
  have R := rows_all hm hcl ecs
  have hcs : cs.length ≤ 6 := by rw [← ecs, List.length_take, List.length_drop, hcl]; (clear hs hsl hm h3 hcl; lia)
  rw [← ecl]
  have at_ : ∀ k c, cells[k]? = some c → (lI cells)[k]? = some (D.int c) := fun k c h => by unfold lI; rw [List.getElem?_map, h]; rfl
  have pysm : ∀ a : Int, Builtin.divisionGoesByPylong a 3 = false := fun a => by rw [Builtin.divisionGoesByPylong]; exact Bool.and_eq_false_iff.mpr (.inl rfl)
  refine ws_cons (w1_listcomp (g := rowG) (ρc := []) (cl := []) (ds := lI cs) (ev_slice (vl (d := .lst (lI cells))) (.some (i := ((1 : Nat) : Int)) ev_int) (.some (i := (m : Int)) (Ev.cast (b := .int (3 + c0.fmod 3)) (congrArg D.int (by (clear hs hsl hcl hcs; lia))) (ev_bin ev_int (ev_bin (ev_sub (vl (d := .lst (lI cells))) ev_int (itm_list (d := .int c0) (by decide) (by decide) (at_ _ _ (by rw [ecl]; rfl))) trivial kle) ev_int (bin_mod (by decide)) kle) bin_add kle))) .none (slc_fromtoI (by (clear hs hsl hm h3 hcs; lia)) ecs) trivial kle) (by rw [ints_len]; (clear hs hm h3 hcl; lia)) rfl nofun (by decide) rfl (by decide) nofun (fun L' sc H gens ps se d hd => ?_) kle ?_ rfl)
  · obtain ⟨c, _, rfl⟩ := List.mem_map.mp hd
    refine ⟨_, as_name rfl, trivial, ev_tuple (evs_cons (ev_bin ev_int (ev_bin vl ev_int (bin_mod (by decide)) kle) bin_add kle) (evs_cons (ev_bin ev_str (ev_call (t_piece pr (c.fdiv 3)) (evs_cons (ev_bin (vl (d := .int c)) ev_int (bin_floordiv (by decide) (pysm c)) kle) evs_nil) kle rfl) (bin_sadd ?_) kle) evs_nil)) kle⟩
    have := piece_len (c.fdiv 3)
    show 1 + _ ≤ _; (clear hs hm h3 hcl hcs; omega)
  rw [rowG_l]
  obtain ⟨rows, erw⟩ : ∃ rows, cs.map rowOf = rows := ⟨_, rfl⟩
  rw [erw] at R ⊢
  have rl : rows.length ≤ 4 := by have := R.d.2; rw [List.length_map] at this; (clear hs hsl hm h3 hcl hcs; lia)
  -- the columns
  have rne : ∃ r rs, rows = r :: rs := by
    cases rows with
    | nil => have := R.d.2; simp at this
    | cons r rs => exact ⟨r, rs, rfl⟩
  obtain ⟨heights, ehe⟩ : ∃ hs, colsOf rows = hs := ⟨_, rfl⟩
  have tcols : Does C "_law_columns" 3 [rowsD rows] (.lst (lI heights)) := by
    obtain ⟨r, rs, rfl⟩ := rne
    rw [← ehe]
    exact t_cols pr h0 r rs (by simp only [List.length_cons] at rl; (clear hs hsl hm h3 hcl hcs; lia)) fun x hx => by
      have := R.d.1 x.1 (List.mem_map_of_mem hx); (clear hs hsl hm h3 hcl hcs rl; lia)
  have hhe : heights = colsD (rows.map (·.1)) := by rw [← ehe]; exact cols_D rows
  have RR := runs R.d
  have hhl : heights.length ≤ 20 := by rw [hhe]; exact RR.clen
  refine ws_cons (w1_assign (d := .lst (lI heights)) (ev_call tcols (evs_cons vl evs_nil) kle rfl) ?_ rfl)
  -- the page
  obtain ⟨PA, ePA⟩ : ∃ PA, ([((1, "", 0) : Ent), ((0, "", 0) : Ent)] ++ heights.map (fun h => ((h, "*", 0) : Ent)) ++ [((0, ";", 0) : Ent)]) = PA := ⟨_, rfl⟩
  obtain ⟨PB, ePB⟩ : ∃ PB, (sumPage rows.tail c5 false ++ [((0, ";", 0) : Ent)] ++ sumPage rows c5 true) = PB := ⟨_, rfl⟩
  have ePP : lawPage rows heights c5 = PA ++ PB := by rw [← ePA, ← ePB]; rfl
  have s1 := sum_len (rows := rows) (cell := c5) true rl
  have s2 := sum_len (rows := rows.tail) (cell := c5) false (by rw [List.length_tail]; (clear hs hsl hm h3 hcl hcs hhl s1; omega))
  refine ws_cons (w1_assign (d := .lst (PA.map entD)) (Ev.cast ?_ (ev_bin (ev_bin (ev_list (ds := [entD (1, "", 0), entD (0, "", 0)]) (evs_cons (ev_tuple (evs_cons ev_int (evs_cons ev_str (evs_cons ev_int evs_nil))) kle) (evs_cons (ev_tuple (evs_cons ev_int (evs_cons ev_str (evs_cons ev_int evs_nil))) kle) evs_nil)) kle) (ev_listcomp (g := starG) (ρc := []) (cl := []) (ds := lI heights) vl (by rw [ints_len]; (clear hs hm h3 hcl hcs rl s1 s2; lia)) rfl nofun (by decide) rfl (by decide) nofun (fun L' sc H gens ps se d hd => ?_) kle) (bin_ladd ?_) kle) (ev_list (ds := [entD (0, ";", 0)]) (evs_cons (ev_tuple (evs_cons ev_int (evs_cons ev_str (evs_cons ev_int evs_nil))) kle) evs_nil) kle) (bin_ladd ?_) kle)) ?_ rfl)
  · rw [starG_l, ← ePA, List.map_append, List.map_append]; rfl
  · obtain ⟨i, _, rfl⟩ := List.mem_map.mp hd
    exact ⟨_, as_name rfl, trivial, ev_tuple (evs_cons vl (evs_cons ev_str (evs_cons ev_int evs_nil))) kle⟩
  · rw [List.length_map, ints_len]; show 2 + _ ≤ _; (clear hs hm h3 hcl hcs rl s1 s2; lia)
  · rw [List.length_append, List.length_map, ints_len]; show 2 + _ + 1 ≤ _; (clear hs hm h3 hcl hcs rl s1 s2; lia)
  refine ws_cons (w1_assign (d := .lst (PB.map entD)) (Ev.cast ?_ (ev_bin (ev_bin (ev_call (t_sum pr h0 rows.tail c5 false (by rw [List.length_tail]; (clear hs hsl hm h3 hcl hcs hhl s1 s2; lia))) (evs_cons (ev_slice (d := rowsD rows.tail) (vl (d := rowsD rows)) (.some (i := ((1 : Nat) : Int)) ev_int) .none .none ?_ trivial kle) (evs_cons (ev_sub (vl (d := .lst (lI cells))) ev_int (itm_list (d := .int c5) (by decide) (by decide) (at_ _ _ (by rw [ecl]; rfl))) trivial kle) (evs_cons ev_bool evs_nil))) kle rfl) (ev_list (ds := [entD (0, ";", 0)]) (evs_cons (ev_tuple (evs_cons ev_int (evs_cons ev_str (evs_cons ev_int evs_nil))) kle) evs_nil) kle) (bin_ladd ?_) kle) (ev_call (t_sum pr h0 rows c5 true rl) (evs_cons vl (evs_cons (ev_sub (vl (d := .lst (lI cells))) ev_int (itm_list (d := .int c5) (by decide) (by decide) (at_ _ _ (by rw [ecl]; rfl))) trivial kle) (evs_cons ev_bool evs_nil))) kle rfl) (bin_ladd ?_) kle)) ?_ rfl)
  · rw [← ePB, List.map_append, List.map_append]; rfl
  · have := slc_from (C := C) (ds := rows.map rowD) (k := 1) (by rw [List.length_map]; (clear hs hm h3 hcl hcs hhl s1 s2; lia))
    rw [List.drop_one, ← List.map_tail] at this
    exact this
  · rw [List.length_map]; show _ + 1 ≤ _; (clear hs hm h3 hcl hcs rl hhl s1; lia)
  · rw [List.length_append, List.length_map, List.length_map]; show _ + 1 + _ ≤ _; (clear hs hm h3 hcl hcs rl hhl; lia)
  -- the texts
  have hrs : ∀ r ∈ rows, RowS r := fun r hr => (R.v r hr).s
  have hPG := pg_law (cell := c5) (heights := heights) hrs (fun h hh => RR.cols h (by rw [← hhe]; exact hh))
  obtain ⟨pg, hnums⟩ := page_all (sh := c6) hPG (page_len rl hhl)
  rw [ePP] at pg hnums
  obtain ⟨T, eT⟩ : ∃ T, textsOf (PA ++ PB) c6 = T := ⟨_, rfl⟩
  rw [eT] at pg hnums
  obtain ⟨A1, B1, C1, N⟩ := nums_all R heights c5
  rw [ePP, ← hnums] at N
  have tt := t_texts pr h0 (PA ++ PB) c6 pg.len pg.ok
  rw [eT] at tt
  have hlenP := pg.len
  rw [List.length_append] at hlenP
  refine ws_cons (w1_assign_tuple (ev_call tt (evs_cons (Ev.cast (b := .lst (PA.map entD ++ PB.map entD)) (by rw [List.map_append]) (ev_bin vl vl (bin_ladd (by rw [List.length_map, List.length_map]; (clear hs hm h3 hcl hcs rl hhl s1 s2; lia))) kle)) (evs_cons (ev_sub (vl (d := .lst (lI cells))) ev_int (itm_list (d := .int c6) (by decide) (by decide) (at_ _ _ (by rw [ecl]; rfl))) trivial kle) evs_nil)) kle rfl) (.cons (as_name rfl) (.cons (as_name rfl) (.cons (as_name rfl) (.cons (as_name rfl) .nil rfl) rfl) rfl) rfl) ?_)
  obtain ⟨mail, email⟩ : ∃ mail, T.mail ++ "." = mail := ⟨_, rfl⟩
  obtain ⟨due, edue⟩ : ∃ due, T.due ++ ".." = due := ⟨_, rfl⟩
  obtain ⟨left, eleft⟩ : ∃ left, T.left ++ ".." = left := ⟨_, rfl⟩
  obtain ⟨told, etold⟩ : ∃ told, T.nums ++ [23, 23] = told := ⟨_, rfl⟩
  obtain ⟨p1, p2, p3, p4, p5, p6, p7, p8, p9, p10, p11, p12, p13, p14⟩ := pg
  rw [email] at p3 p4 p5 p6
  rw [edue] at p4 p7 p8 p9 p10 p11
  rw [eleft] at p10 p12 p13
  rw [etold] at p13 p14 N
  rw [email, edue, eleft, etold]
  have qd : due.cps.toList = quoL true (fixL mail.cps.toList) := by rw [← p4]
  -- the sending
  refine ws_if (b := (c0.fdiv 3).fmod 2 == 0) (σ := [("sent", .val (.str due)), ("due", .val (.str due)), ("left", .val (.str left)), ("numbers", .val (.lst (lI told))), ("rows", .val (rowsD rows)), ("heights", .val (.lst (lI heights))), ("cells", .val (.lst (lI cells))), ("script", .val (.lst (lI script)))])
    (ts_cmp (ev_bin (ev_bin (ev_sub (vl (d := .lst (lI cells))) ev_int (itm_list (d := .int c0) (by decide) (by decide) (at_ _ _ (by rw [ecl]; rfl))) trivial kle) ev_int (bin_floordiv (by decide) (pysm c0)) kle) ev_int (bin_mod (by decide)) kle) ev_int cmp_eq kle) (fun zz => ?_) (fun zz => ?_) ?_
  · exact ws_cons (w1_assign (d := .str due) (Ev.cast (congrArg D.str p4) (ev_call (t_qd pr pt mail p3) (evs_cons vl evs_nil) kle rfl)) (ws_nil ⟨rfl, rfl, rfl, rfl, rfl, rfl, rfl, rfl, trivial⟩) rfl)
  · have e1 : (((fixL mail.cps.toList).map (·.toUInt8)).toArray.toList.map (·.toNat)) = fixL mail.cps.toList := bytes_back p6
    have tq := t_qp pr pt ((fixL mail.cps.toList).map (·.toUInt8)).toArray (by simpa using p5)
    rw [e1, ← qd] at tq
    have ce := call_encode (C := C) (x := ⟨(fixL mail.cps.toList).toArray⟩) p6 (by simpa using Nat.le_trans p5 (by decide))
    have dz := p8
    rw [len_l] at dz
    have cd' : Call C 0 (.builtin "bytes.decode") [.bytes (due.cps.toList.map (·.toUInt8)).toArray, .str (Str.ofString "ascii")] (.str due) := by
      have dn : due.cps.toList ≠ [] := by
        rw [← edue, app_l]
        exact fun q => absurd (List.append_eq_nil_iff.mp q).2 (by decide)
      have eb := bytes_back p7
      cases hb : due.cps.toList.map (·.toUInt8) with
      | nil => exact absurd (List.map_eq_nil_iff.mp hb) dn
      | cons c r =>
        rw [hb] at eb
        have := call_decode (C := C) (c := c) (cs := r) (fun y hy => by
          have hy' : y.toNat ∈ (c :: r).map (·.toNat) := List.mem_map_of_mem hy
          rw [eb] at hy'; exact p7 _ hy') (by rw [← hb, List.length_map]; (clear hs hsl hm h3 hcl hcs rl hhl s1 s2 hlenP p1 p3 p5 p8 p9 p11 p12 p14 dn; lia))
        rw [eb] at this
        exact this
    refine ws_cons (w1_assign (d := .str due) (ev_meth (T := "bytes") (ev_call tq (evs_cons (ev_meth (T := "str") (ev_call (t_fix pr pt mail p3) (evs_cons vl evs_nil) kle rfl) (evs_cons ev_str evs_nil) rfl ce kle PySem.F.plainAttrs_str PySem.F.slot_str_encode PySem.F.type_str_encode) evs_nil) kle rfl) (evs_cons ev_str evs_nil) rfl cd' kle FB.plainAttrs_bytes FB.slot_bytes_decode FB.type_bytes_decode) (ws_nil ⟨rfl, rfl, rfl, rfl, rfl, rfl, rfl, rfl, trivial⟩) rfl)
  -- what is left, what is told
  have hq : Txt.contains (("\"\"" : Str) ++ due) "\"" = true := contains_one (c := 34) (by rw [app_l]; exact List.mem_append_left _ (by decide))
  refine ws_cons (w1_assign (d := .str left) (Ev.cast (congrArg D.str p10) (ev_call (t_strip pr h0 (("\"\"" : Str) ++ due) (by rw [str_len_app]; show 2 + _ ≤ _; (clear hs hsl hm h3 hcl hcs rl hhl s1 s2 hlenP p1 p3 p5 p9 p11 p12 p14 hq; lia)) hq p9 p11) (evs_cons (ev_bin ev_str vl (bin_sadd (by show 2 + _ ≤ _; (clear hs hm h3 hcl hcs rl hhl s1 s2 hlenP p1 p3 p5 p9 p11 p12 p14 hq; lia))) kle) evs_nil) kle rfl)) ?_ rfl)
  refine ws_cons (w1_assign (d := .lst (lI told)) (Ev.cast (congrArg (fun l => D.lst (lI l)) p13) (ev_call (t_read pr tk left p12) (evs_cons vl evs_nil) kle rfl)) ?_ rfl)
  refine ws_skip (ts_bool (.or_cons (Ts.cast (b := due != due) (b' := false) (by simp) (ts_cmp vl vl cmp_sne kle)) (fun zz => .or_cons (Ts.cast (b := left != left) (b' := false) (by simp) (ts_cmp vl vl cmp_sne kle)) (fun zz => .or_cons (Ts.cast (b := told != told) (b' := false) (by simp) (ts_cmp vl vl cmp_lne kle)) (fun zz => .or_nil) nofun) nofun) nofun)) ?_
  exact ws_sub (ρ' := [("told", .val (.lst (lI told))), ("rows", .val (rowsD rows)), ("heights", .val (.lst (lI heights))), ("cells", .val (.lst (lI cells))), ("script", .val (.lst (lI script)))]) ⟨rfl, rfl, rfl, rfl, rfl, trivial⟩ (law_tail pr pc h0 N RR rfl hhe p14 (by rw [ecl]; rfl) hA)
end Mine
/-! L6 -/
namespace Mine
open PySem PySem.W PySem.Spec PySem.Calls PyProof.Rows PySem.SeqAt
open Builtin.Int (intBits)
open PySem.Builtin PySem.Builtin.Re

/-! # the law's claim -/
noncomputable abbrev lawRow : PySem.W.RowW := PySem.Challenge.rw_uc0028_01.row.toRowW
theorem pre_args {args : List WData} (h : lawRow.claim.pre args = true) : ∃ ns : List Int, args = [.list (ns.map .int)] ∧ ns.length ≤ 63 := by
  obtain ⟨h1, h2⟩ := pre_splitW h
  obtain ⟨d, r, rfl, h3, h4⟩ := hasAllW_cons h1
  have := hasAllW_nil h4
  subst this
  obtain ⟨xs, rfl, h5⟩ := hasW_list h3
  obtain ⟨ns, rfl⟩ := items_int h5
  refine ⟨ns, rfl, ?_⟩
  have h6 : (WTm.and (.not (.lt (.lit (.int ((63 : Nat) : Int))) (.len (.arg 0)))) (.lit (.bool true))).holds [] { args := [.list (ns.map .int)] } = true := h2
  simp only [WTm.holds, WTm.value, PySem.W.less?, PySem.W.Num.less?, List.getElem?_cons_zero, List.length_map, Option.map_some] at h6
  by_cases q : ns.length ≤ 63
  · exact q
  · have e : decide ((((63 : Nat) : Int)) < (ns.length : Int)) = true := decide_eq_true (by (clear h4 h5 h3 h h1 h2 h6; omega))
    rw [e] at h6
    cases h6
theorem post_true {args : List WData} : lawRow.claim.post args (.bool true) args = true := by
  show (WTm.eq .res (.lit (.bool true))).holds [] _ = true
  simp [WTm.holds, WTm.value, PySem.W.same]
theorem raises_no {args : List WData} {c : ExcName} : lawRow.claim.raises args c = false := rfl
theorem well_ints {P : Params} {h : Heap} {hid : Addr → Prop} {vs : List Value} {ns : List Int} : WellAll P h vs (ns.map .int) → Rps hid h vs (lI ns) := by
  induction ns generalizing vs with
  | nil => intro x; cases x; exact .nil
  | cons n ns ih =>
    intro x
    cases x with
    | cons a r => exact .cons (by cases a; exact .int _ _) (ih r)

/-! ## what the text left -/
noncomputable def PatF (K : Frag) (x : Str) (code : Array Nat) (kind : Nat) : Prop := ∃ (a : Addr) (fs ws : Array Value) (T : Addr) (n : Nat), nsIn K mainGlobals x = some (some (.ref a)) ∧ K.lookup a = some ({ cls := .type "re.Pattern", data := .fields fs } : Obj) ∧ K.lookup T = some ({ cls := .type "tuple", data := .seq ws n } : Obj) ∧
  fs.getD 5 .none = .ref T ∧ reRawNat (fs.getD 2 .none) = 0 ∧ reRawNat (fs.getD 6 .none) = kind ∧ (ws.map reRawOf).map (·.toNat) = code
noncomputable def keyOf : Value → Option Str
  | .str x _ => some x
  | _ => none
noncomputable def intOf : Value → Option Int
  | .int i _ => some i
  | _ => none
theorem keyOf_inv {v : Value} {x : Str} (h : keyOf v = some x) : ∃ t, v = .str x t := by
  cases v with
  | str y t => exact ⟨t, by rw [Option.some.inj h]⟩
  | _ => cases h
theorem intOf_inv {v : Value} {i : Int} (h : intOf v = some i) : ∃ t, v = .int i t := by
  cases v with
  | int j t => exact ⟨t, by rw [Option.some.inj h]⟩
  | _ => cases h
noncomputable def tokZip : List DictEntry → List (Str × Int) → Bool
  | [], [] => true
  | e :: r, p :: l => (keyOf e.key == some p.1 && intOf e.val == some p.2) && tokZip r l
  | _, _ => false
theorem tok_zip {es : List DictEntry} (k : Str) : ∀ {l : List (Str × Int)}, tokZip es l = true → (l.lookup k = none ∧ (es.find? fun e => Value.isStrOf k e.key).map (·.val) = none) ∨ ∃ i t, l.lookup k = some i ∧ (es.find? fun e => Value.isStrOf k e.key).map (·.val) = some (.int i t) := by
  induction es with
  | nil =>
    intro l h
    cases l with
    | nil => exact .inl ⟨rfl, rfl⟩
    | cons _ _ => cases h
  | cons e r ih =>
    intro l h
    cases l with
    | nil => cases h
    | cons p l =>
      have h := Bool.and_eq_true_iff.mp h
      have h1 := Bool.and_eq_true_iff.mp h.1
      obtain ⟨t, e1⟩ := keyOf_inv (beq_iff_eq.mp h1.1)
      obtain ⟨u, e2⟩ := intOf_inv (beq_iff_eq.mp h1.2)
      have e3 : Value.isStrOf k e.key = (k == p.1) := by
        rw [e1]
        show (p.1 == k) = (k == p.1)
        rw [Bool.eq_iff_iff, beq_iff_eq, beq_iff_eq]; exact ⟨Eq.symm, Eq.symm⟩
      rw [List.lookup_cons, List.find?_cons, e3]
      cases k == p.1 with
      | true => exact .inr ⟨p.2, u, rfl, congrArg some e2⟩
      | false => exact ih h.2
theorem code_1 : ((#[Value.int 14 0, Value.int 4 0, Value.int 0 0, Value.int 1 0, Value.int 1 0, Value.int 6 0, Value.int 1 0, Value.int 16 0, Value.int 46 0, Value.int 1 0] : Array Value).map reRawOf).map (·.toNat) = code1 := by decide +kernel
theorem code_3 : ((#[Value.int 14 0, Value.int 9 0, Value.int 4 0, Value.int 1 0, Value.int 2 0, Value.int 16 0, Value.int 10 0, Value.int 16 0, Value.int 13 0, Value.int 0 0, Value.int 7 0, Value.int 7 0,
  Value.int 16 0, Value.int 13 0, Value.int 16 0, Value.int 10 0, Value.int 15 0, Value.int 18 0, Value.int 5 0, Value.int 16 0, Value.int 10 0, Value.int 15 0, Value.int 13 0, Value.int 11 0,
  Value.int 16 0, Value.int 13 0, Value.int 5 0, Value.int 5 0, Value.int 0 0, Value.int 16 0, Value.int 10 0, Value.int 1 0, Value.int 15 0, Value.int 2 0, Value.int 0 0, Value.int 1 0] : Array Value).map reRawOf).map (·.toNat) = code3 := by decide +kernel
structure Facts (q : Program) (lo : List Str) (K : Params → Frag) : Prop where
  recs : recsOf q = recsOf pw
  wds : wdefsOf pw = []
  ti : ∀ P, tabIn (K P) "_int2digits" = some (51, 47)
  td : ∀ P, tabIn (K P) "_digits2int" = some (58, 54)
  nt : ∀ P, noTabs (K P) = true
  p1 : ∀ P, PatF (K P) "_twin_re_1" code1 0
  p2 : ∀ P, PatF (K P) "_twin_re_2" code1 1
  p3 : ∀ P, PatF (K P) "_twin_re_3" code3 0
  c1 : ∀ P, ∃ t, nsIn (K P) mainGlobals (Str.ofString "CRLF") = some (some (.str (Str.ofString "\r\n") t))
  c2 : ∀ P, ∃ t, nsIn (K P) mainGlobals (Str.ofString "NT_OFFSET") = some (some (.int 256 t))
  c3 : ∀ P, ∃ t, nsIn (K P) mainGlobals (Str.ofString "ENDMARKER") = some (some (.int 0 t))
  c4 : ∀ P, ∃ t, nsIn (K P) mainGlobals (Str.ofString "_DIV_LIMIT") = some (some (.int 4000 t))
  ett : ∀ P, ∃ (a : Addr) (es : Array DictEntry) (n : Nat), nsIn (K P) mainGlobals (Str.ofString "EXACT_TOKEN_TYPES") = some (some (.ref a)) ∧ (K P).lookup a = some ⟨.type "dict", none, .dict es n, #[]⟩ ∧ KeysLit P es.toList ∧ tokZip es.toList tokens = true ∧ (a == sysModules) = false
  free : usedBi.all (fun x => !(startupNames ++ (looseW q lo ++ ((recsOf q).map (·.name) ++ ((litsOf q).map (·.1) ++ (clssOf q (looseW q lo)).map (·.name))))).contains x) = true

noncomputable abbrev tabsL : List (Addr × Addr) := [(51, 47), (58, 54)]
noncomputable abbrev lawCx (w : World) (mg mb : Str → Option Value) (s : Shared) : Cx :=
  { prog := pw, w := w, mg := mg, mb := mb, gh := ghostOf s.heap tabsL, os := s.os, ta := ⟨51, 47, I_i2d.pos.line, I_i2d.pos.col, "_int2digits.<locals>.inner"⟩, tb := ⟨58, 54, I_d2i.pos.line, I_d2i.pos.col, "_digits2int.<locals>.inner"⟩, hd := none }
section
variable {q : Program} {lo : List Str} {K : Params → Frag} {R : WRecords} {XP : (Str → Option Value) → Heap → Prop} {w : World} {s₀ s : Shared} {mg mb : Str → Option Value}
theorem ghost_rec {h : Heap} {cd : Value} {x : Str} (hT : TabsAt tabsL h) (r : h.CodeRec cd x) : (ghostOf h tabsL).CodeRec cd x := by
  obtain ⟨c, o, vs, t, e1, e2, e3, e4⟩ := r
  refine ⟨c, o, vs, t, e1, ghost_get hT e2 (fun z => ?_), e3, e4⟩
  subst z
  cases e3
  simp at e4
set_option tactic.hygienic true in
theorem fn_of (F : Facts q lo K) (G : Ground q lo R XP w s₀ mg mb s.heap) (hT : TabsAt tabsL s.heap) {x : Str} {d : DefRec} (e : defOf pw x = some (d, [])) :
    ∃ a o pm cd doc, mg x = some (.ref a) ∧ (ghostOf s.heap tabsL).get? a = some o ∧ o.data = .func (docDef x d.params d.body d.scope pm cd doc) ∧ (ghostOf s.heap tabsL).CodeRec cd x ∧ s.heap.get? a = some o := by
  unfold defOf at e
  split at e
  · rename_i d' hf
    split at e
    · cases e
      have hn : d.name = x := beq_iff_eq.mp (List.find?_some (p := fun e : DefRec => e.name == x) hf)
      obtain ⟨a, o, pm, cd, doc, h1, h2, h3, h4⟩ := G.T.fn d (by rw [F.recs]; exact List.mem_of_find?_eq_some hf)
      rw [hn] at h1 h3 h4
      exact ⟨a, o, pm, cd, doc, h1, ghost_get hT h2 (fun z => by rw [z] at h3; cases h3), h3, ghost_rec hT h4, h2⟩
    · cases e
  · rw [F.wds] at e; cases e
theorem tabs_of (F : Facts q lo K) (G : Ground q lo R XP w s₀ mg mb s.heap) (KI : (K w.params).In s.heap) : TabsAt tabsL s.heap := by
  exact all2 (tab_of (x := "_int2digits") (d := R_i2d) G.T KI (by rw [F.recs]; rfl) (F.ti _)) (tab_of (x := "_digits2int") (d := R_d2i) G.T KI (by rw [F.recs]; rfl) (F.td _))
theorem ok_of (F : Facts q lo K) (G : Ground q lo R XP w s₀ mg mb s.heap) (hT : TabsAt tabsL s.heap) : (lawCx w mg mb s).Ok := by
  have hc := ghost_code hT
  have TT := ghost_top hT G.T
  refine ⟨TT.g, TT.b, TT.nolimit, G.T.builtins, ?_, hc.1, hc.2.1, hideAll_none _ (.head _), hideAll_none _ (.tail _ (.head _)), show (47 : Addr) ≠ 54 by decide, fun p hp => by cases hp⟩
  obtain ⟨bm, ob, a1, a2, a3, a4, a5, a6⟩ := TT.bmain
  exact ⟨bm, ob, a1, a2, a3, a4, a5, a6⟩
theorem free_of (F : Facts q lo K) (G : Ground q lo R XP w s₀ mg mb s.heap) (x : Str) (hb : bootBuiltins x ≠ none) (hs : x ∈ usedBi) : mg x = none := by
  have key : x ∉ startupNames ++ (looseW q lo ++ ((recsOf q).map (·.name) ++ ((litsOf q).map (·.1) ++ (clssOf q (looseW q lo)).map (·.name)))) := fun hm => by
    have h1 := List.all_eq_true.mp F.free x hs
    rw [List.contains_iff_mem.mpr hm] at h1
    exact Bool.false_ne_true h1
  simp only [List.mem_append, not_or] at key
  exact G.T.free x key.1 key.2.1 key.2.2.1 key.2.2.2.1 key.2.2.2.2
theorem pr_of (F : Facts q lo K) (G : Ground q lo R XP w s₀ mg mb s.heap) (KI : (K w.params).In s.heap) : Pr (lawCx w mg mb s) := by
  have hT := tabs_of F G KI
  refine ⟨ok_of F G hT, free_of F G, fun x d e => ?_, ?_, ?_, ?_⟩
  · obtain ⟨a, o, pm, cd, doc, h1, h2, h3, h4, _⟩ := fn_of F G hT e
    exact ⟨a, ⟨h1, o, pm, cd, doc, h2, h3, h4⟩⟩
  · obtain ⟨t, e⟩ := F.c2 w.params; exact ⟨t, mg_of KI G.T.g e⟩
  · obtain ⟨t, e⟩ := F.c3 w.params; exact ⟨t, mg_of KI G.T.g e⟩
  · obtain ⟨t, e⟩ := F.c4 w.params; exact ⟨t, mg_of KI G.T.g e⟩
theorem prc_of (F : Facts q lo K) (G : Ground q lo R XP w s₀ mg mb s.heap) (KI : (K w.params).In s.heap) : PrC (lawCx w mg mb s) := by
  have hT := tabs_of F G KI
  refine ⟨?_, ?_, ⟨rfl, rfl, rfl⟩, rfl, rfl, rfl⟩
  · obtain ⟨a, o, pm, cd, doc, h1, h2, h3, h4, h5⟩ := fn_of F G hT (x := "_int2digits") (d := R_i2d) rfl
    have := law_code KI G.T.g (F.ti _) h1 h5 h3
    rw [show cd = .ref 51 from this] at h3 h4
    exact ⟨a, h1, o, pm, doc, h2, h3, h4⟩
  · obtain ⟨a, o, pm, cd, doc, h1, h2, h3, h4, h5⟩ := fn_of F G hT (x := "_digits2int") (d := R_d2i) rfl
    have := law_code KI G.T.g (F.td _) h1 h5 h3
    rw [show cd = .ref 58 from this] at h3 h4
    exact ⟨a, h1, o, pm, doc, h2, h3, h4⟩
theorem pat_of (F : Facts q lo K) (G : Ground q lo R XP w s₀ mg mb s.heap) (KI : (K w.params).In s.heap) {x : Str} {code : Array Nat} {kind : Nat} (p : PatF (K w.params) x code kind) : Pat (lawCx w mg mb s) x code kind := by
  have hT := tabs_of F G KI
  have GK := ghost_K hT KI (F.nt _)
  obtain ⟨a, fs, ws, T, n, h1, h2, h3, h4, h5, h6, h7⟩ := p
  exact ⟨a, mg_of KI G.T.g h1, fs, ws, T, n, GK _ _ h2, GK _ _ h3, h4, h5, h6, h7⟩
theorem prt_of (F : Facts q lo K) (G : Ground q lo R XP w s₀ mg mb s.heap) (KI : (K w.params).In s.heap) : PrT (lawCx w mg mb s) :=
  ⟨pat_of F G KI (F.p1 _), pat_of F G KI (F.p2 _), pat_of F G KI (F.p3 _), (F.c1 w.params).imp fun zz e => mg_of KI G.T.g e⟩
theorem tk_of (F : Facts q lo K) (G : Ground q lo R XP w s₀ mg mb s.heap) (KI : (K w.params).In s.heap) : Tk (lawCx w mg mb s) "EXACT_TOKEN_TYPES" tokF := by
  have hT := tabs_of F G KI
  have GK := ghost_K hT KI (F.nt _)
  obtain ⟨a, es, n, h1, h2, h3, h4, h5⟩ := F.ett w.params
  refine ⟨a, _, mg_of KI G.T.g h1, mapOf_K (prog := pw) GK h2 h3, h5, fun k => ?_⟩
  have := tok_zip k h4
  unfold tokF findBy
  obtain ⟨l⟩ := es
  rw [List.find?_toArray]
  exact this
theorem gd_of (F : Facts q lo K) (G : Ground q lo R XP w s₀ mg mb s.heap) (KI : (K w.params).In s.heap) (hg : s.gens = #[]) : Gd (lawCx w mg mb s) s := by
  have hT := tabs_of F G KI
  exact ⟨fun b o e => of_hideAll _ e, ⟨#[], (hT (51, 47) (.head _)).2, trivial, .inl rfl⟩, ⟨#[], (hT (58, 54) (.tail _ (.head _))).2, trivial, .inl rfl⟩, rfl, .of_eq hg, fun p hp => by cases hp⟩
theorem old_of {s' : Shared} (hT : TabsAt tabsL s.heap) (x : Ex (lawCx w mg mb s) s s') : OldK s.heap s'.heap := by
  have grown : ∀ b o, b ∈ tabsL.map (·.2) → s.heap.get? b = some o → isCodeTable s.heap b ∧ o = tabObj #[] ∧ ∃ ps, s'.heap.get? b = some (tabObj ps) := fun b o hb e => by
    obtain ⟨p, hp, hpb⟩ := List.mem_map.mp hb
    have e2 := (hT p hp).2
    rw [hpb, e] at e2
    refine ⟨hpb ▸ ((hT p hp).1.tab (hT p hp).2).isCodeTable, Option.some.inj e2, ?_⟩
    rw [← hpb]
    exact all2 (P := fun p : Addr × Addr => ∃ ps, s'.heap.get? p.2 = some (tabObj ps)) (x.gd.ta.imp fun zz q => q.1) (x.gd.tb.imp fun zz q => q.1) p hp
  have keep : ∀ b o, b ∉ tabsL.map (·.2) → s.heap.get? b = some o → s'.heap.get? b = some o := fun b o hb e => by
    simp only [List.map_cons, List.map_nil, List.mem_cons, List.not_mem_nil, or_false, not_or] at hb
    exact x.keep b o ⟨hb.1, hb.2, fun p hp => by cases hp⟩ e
  refine ⟨fun b o e => ?_, fun b o e => ?_⟩
  · by_cases hb : b ∈ tabsL.map (·.2)
    · obtain ⟨ht, rfl, ps, hP⟩ := grown b o hb e
      exact .inr (.inl ⟨ht, rfl, #[], ps, rfl, by rw [Array.empty_append]; exact hP⟩)
    · exact .inl (keep b o hb e)
  · by_cases hb : b ∈ tabsL.map (·.2)
    · obtain ⟨_, _, ps, hP⟩ := grown b o hb e
      exact ⟨_, hP⟩
    · exact ⟨o, keep b o hb e⟩
end
theorem law_entry {q : Program} {lo : List Str} {K : Params → Frag} {as : List Addr} {e : ∀ P, as = (K P).map (·.1)} {XP : (Str → Option Value) → Heap → Prop} (F : Facts q lo K) {d : DefRec} (hd : R_law = d) :
    WalkO q lo XP (kmHook K as e [54, 47]).says lawRow d [] (fun f vs => PySem.call f vs) := by
  subst hd
  intro w s₀ s mg mb G Y a o pm cd doc dV kV h1 h2 h3 h4 h5 hg args vals as hpre hlay hrd hwell hlo
  have KI := km_in_of Y
  have hT := tabs_of F G KI
  have pr := pr_of F G KI
  have pc := prc_of F G KI
  have pt := prt_of F G KI
  have tk := tk_of F G KI
  obtain ⟨ns, rfl, hn⟩ := pre_args hpre
  have r : Rps (fun zz => False) s.heap vals [.lst (lI ns)] := by
    cases hwell with
    | cons x y =>
      cases y
      cases x with
      | list ho hi => exact .cons (.lst (fun z => z) ho ⟨rfl, rfl, ⟨_, rfl⟩, rfl⟩ (well_ints hi)) .nil
  obtain ⟨a', o', pm', cd', doc', e1, e2, e3, e4, e5⟩ := fn_of F G hT (x := "law") (d := R_law) rfl
  have ea : a' = a := by
    have h5' : mg (Str.ofString "law") = some (.ref a) := h5
    rw [e1] at h5'; exact Value.ref.inj (Option.some.inj h5')
  rw [ea] at e1 e2
  have hf : FnDc (lawCx w mg mb s) "law" a cd' R_law.params R_law.body R_law.scope := ⟨e1, o', pm', doc', e2, e3, e4⟩
  exact call_fncA (C := lawCx w mg mb s) (A := callerA) (k := 40) (d := .bool true) pr.ok hf (names := ["script"]) (by decide) rfl (fun pm doc vs hl => by obtain ⟨v, rfl⟩ := len_1 hl; rfl) (fun n hn L => .inl (by rw [List.mem_singleton.mp hn]; rfl)) (fun L s' hid => law_walk pr pc pt tk rfl ns hn rfl) rfl rfl rfl (fun zz => False) s vals _ _ ⟨rfl, by decide, by decide⟩ (gd_of F G KI hg) (fun zz z => z.elim) r fun v s' x rv => by
    cases rv.bool_inv
    exact ⟨.inl ⟨.bool true, .bool true, [], rfl, fun zz => raises_no, .bool true, post_true, fun zz => ⟨.nil, fun zz z => nomatch z⟩⟩, old_of hT x, x.gd.os, x.gd.bare⟩
end Mine
/-! the head. The names laid here keep it from printing a second form of each of the row's parts: it takes the row's own, and the compiled file stays small. -/
theorem Mine.top.tw23087011456773342 : True := trivial
theorem Mine.top.tw72247145696351765 : True := trivial
theorem Mine.top.tw81815255157605957 : True := trivial
theorem Mine.top.tw105208000716104510 : True := trivial
theorem Mine.top.tw216529984938456764 : True := trivial
theorem Mine.top.tw355369416286838959 : True := trivial
theorem Mine.top.tw370947364307004932 : True := trivial
theorem Mine.top.tw427269002284569659 : True := trivial
theorem Mine.top.tw453181688931711583 : True := trivial
theorem Mine.top.tw517144808224063464 : True := trivial
theorem Mine.top.tw521701566708251284 : True := trivial
theorem Mine.top.tw575894324575664597 : True := trivial
theorem Mine.top.tw614279269813649353 : True := trivial
theorem Mine.top.tw649594095290182367 : True := trivial
theorem Mine.top.tw708234853630380328 : True := trivial
theorem Mine.top.tw775762912060472103 : True := trivial
theorem Mine.top.tw788273225186049534 : True := trivial
theorem Mine.top.tw795583310449317561 : True := trivial
theorem Mine.top.tw832561496525075734 : True := trivial
theorem Mine.top.tw864819663365544661 : True := trivial
theorem Mine.top.tw877433047237710547 : True := trivial
theorem Mine.top.tw908825868028484722 : True := trivial
theorem Mine.top.tw956942650209027819 : True := trivial
theorem Mine.top.tw987869383939708018 : True := trivial
theorem Mine.top.tw1047907039808853306 : True := trivial
theorem Mine.top.tw1088946173253831356 : True := trivial
theorem Mine.top.tw1139600151236580504 : True := trivial
theorem Mine.top.tw1149218181149386328 : True := trivial
theorem Mine.top.tw1195175773429642966 : True := trivial
theorem Mine.top.tw1245559373397905713 : True := trivial
theorem Mine.top.tw1275901062530889299 : True := trivial
theorem Mine.top.tw1284575025550258836 : True := trivial
theorem Mine.top.tw1302751319478683191 : True := trivial
theorem Mine.top.tw1381835654847214879 : True := trivial
theorem Mine.top.tw1483126911874232274 : True := trivial
theorem Mine.top.tw1492452104121835379 : True := trivial
theorem Mine.top.tw1516213087968936877 : True := trivial
theorem Mine.top.tw1627033314693092817 : True := trivial
theorem Mine.top.tw1732150942055357024 : True := trivial
theorem Mine.top.tw1869187583165140508 : True := trivial
theorem Mine.top.tw1886144042066472794 : True := trivial
theorem Mine.top.tw2126296398998916975 : True := trivial
theorem Mine.top.tw2218668502564051296 : True := trivial
theorem Mine.top.tw2287823674025257028 : True := trivial
theorem Mine.top.tw2443449257678562572 : True := trivial
theorem Mine.top.tw2462062305354472974 : True := trivial
theorem Mine.top.tw2464713573024523455 : True := trivial
theorem Mine.top.tw2555065506035805374 : True := trivial
theorem Mine.top.tw2617719716777270872 : True := trivial
theorem Mine.top.tw2730760306732684819 : True := trivial
theorem Mine.top.tw2732273902793177162 : True := trivial
theorem Mine.top.tw2741389259953327712 : True := trivial
theorem Mine.top.tw2745572283795976233 : True := trivial
theorem Mine.top.tw2782073688633401757 : True := trivial
theorem Mine.top.tw2812155379371279736 : True := trivial
theorem Mine.top.tw2822501910515967889 : True := trivial
theorem Mine.top.tw2835187731363253809 : True := trivial
theorem Mine.top.tw2867133514656366558 : True := trivial
theorem Mine.top.tw2924597203103170677 : True := trivial
theorem Mine.top.tw2961162367911888002 : True := trivial
theorem Mine.top.tw3337584539547039419 : True := trivial
theorem Mine.top.tw3415322320949008781 : True := trivial
theorem Mine.top.tw3474246075231452896 : True := trivial
theorem Mine.top.tw3561193834555079511 : True := trivial
theorem Mine.top.tw3768957769849046624 : True := trivial
theorem Mine.top.tw3844969445664438809 : True := trivial
theorem Mine.top.tw3855276242980373810 : True := trivial
theorem Mine.top.tw3969286963782609292 : True := trivial
theorem Mine.top.tw4047667213573674445 : True := trivial
theorem Mine.top.tw4166218997396506358 : True := trivial
theorem Mine.top.tw4205137553216949640 : True := trivial
theorem Mine.top.tw4213018616267185653 : True := trivial
theorem Mine.top.tw4257513813871878786 : True := trivial
theorem Mine.top.tw4299629679881509495 : True := trivial
theorem Mine.top.tw4321519831107876412 : True := trivial
theorem Mine.top.tw4498253355057717688 : True := trivial
theorem Mine.top.tw4655869559712951663 : True := trivial
theorem Mine.top.tw4656485037274611717 : True := trivial
theorem Mine.top.tw4671429814451907529 : True := trivial
theorem Mine.top.tw4859757453598101857 : True := trivial
theorem Mine.top.tw5058314954733539658 : True := trivial
theorem Mine.top.tw5088376156974544275 : True := trivial
theorem Mine.top.tw5105846836358774362 : True := trivial
theorem Mine.top.tw5118827330378232414 : True := trivial
theorem Mine.top.tw5225153198818245361 : True := trivial
theorem Mine.top.tw5225916559131626549 : True := trivial
theorem Mine.top.tw5278709424875269971 : True := trivial
theorem Mine.top.tw5303079699428457377 : True := trivial
theorem Mine.top.tw5327730231235587845 : True := trivial
theorem Mine.top.tw5405092056839124451 : True := trivial
theorem Mine.top.tw5523086135645875356 : True := trivial
theorem Mine.top.tw5604026686304666287 : True := trivial
theorem Mine.top.tw5667650583090716360 : True := trivial
theorem Mine.top.tw5766051744304087583 : True := trivial
theorem Mine.top.tw5889316905344633881 : True := trivial
theorem Mine.top.tw6187478851450931391 : True := trivial
theorem Mine.top.tw6286779285267259847 : True := trivial
theorem Mine.top.tw6333448901615975916 : True := trivial
theorem Mine.top.tw6370870915552960936 : True := trivial
theorem Mine.top.tw6431110157172167083 : True := trivial
theorem Mine.top.tw6491118196486620199 : True := trivial
theorem Mine.top.tw6664487174759623829 : True := trivial
theorem Mine.top.tw6749217079512962374 : True := trivial
theorem Mine.top.tw6812286434817487243 : True := trivial
theorem Mine.top.tw6859976401760118174 : True := trivial
theorem Mine.top.tw6883741973766446791 : True := trivial
theorem Mine.top.tw6885214360128481674 : True := trivial
theorem Mine.top.tw6898770573198911631 : True := trivial
theorem Mine.top.tw7128477653932159489 : True := trivial
theorem Mine.top.tw7414872774492366064 : True := trivial
theorem Mine.top.tw7429413206186439793 : True := trivial
theorem Mine.top.tw7458633546980236471 : True := trivial
theorem Mine.top.tw7527032243904285869 : True := trivial
theorem Mine.top.tw7557910624720293991 : True := trivial
theorem Mine.top.tw7740461459972228597 : True := trivial
theorem Mine.top.tw7743179893348639699 : True := trivial
theorem Mine.top.tw7830913209206220567 : True := trivial
theorem Mine.top.tw7847650389618582240 : True := trivial
theorem Mine.top.tw7990429038631628895 : True := trivial
theorem Mine.top.tw8107780213005350392 : True := trivial
theorem Mine.top.tw8143265674769528471 : True := trivial
theorem Mine.top.tw8204474986945543665 : True := trivial
theorem Mine.top.tw8265191368974092141 : True := trivial
theorem Mine.top.tw8321918168302905379 : True := trivial
theorem Mine.top.tw8345894832289464959 : True := trivial
theorem Mine.top.tw8363718466572441477 : True := trivial
theorem Mine.top.tw8443935842833279946 : True := trivial
theorem Mine.top.tw8507776931139520737 : True := trivial
theorem Mine.top.tw8523463495250067690 : True := trivial
theorem Mine.top.tw8538268897159353584 : True := trivial
theorem Mine.top.tw8598144960395782539 : True := trivial
theorem Mine.top.tw8645369167282567922 : True := trivial
theorem Mine.top.tw8694864300669457046 : True := trivial
theorem Mine.top.tw8756551941217200625 : True := trivial
theorem Mine.top.tw8810280945414196856 : True := trivial
theorem Mine.top.tw8813761850579938390 : True := trivial
theorem Mine.top.tw9063741608606530840 : True := trivial
theorem Mine.top.tw9108098604805947806 : True := trivial
theorem Mine.top.tw9171128306802026098 : True := trivial
theorem Mine.top.tw9229161468869434483 : True := trivial
theorem Mine.top.tw9305691244287143441 : True := trivial
theorem Mine.top.tw9335426496214029073 : True := trivial
theorem Mine.top.tw9378254376102152143 : True := trivial
theorem Mine.top.tw9382581127745807760 : True := trivial
theorem Mine.top.tw9601329371697537090 : True := trivial
theorem Mine.top.tw9768079942903668216 : True := trivial
theorem Mine.top.tw9800703332001039478 : True := trivial
theorem Mine.top.tw10005945817407372193 : True := trivial
theorem Mine.top.tw10006222313960134694 : True := trivial
theorem Mine.top.tw10090393231696489298 : True := trivial
theorem Mine.top.tw10187264123177260123 : True := trivial
theorem Mine.top.tw10351904256014021328 : True := trivial
theorem Mine.top.tw10404823597219466188 : True := trivial
theorem Mine.top.tw10567129059001840431 : True := trivial
theorem Mine.top.tw10648311167861321448 : True := trivial
theorem Mine.top.tw10703516329204539289 : True := trivial
theorem Mine.top.tw10773188271377071773 : True := trivial
theorem Mine.top.tw10936122117785486979 : True := trivial
theorem Mine.top.tw10956490626425055710 : True := trivial
theorem Mine.top.tw10996937224433265937 : True := trivial
theorem Mine.top.tw11133666699803404755 : True := trivial
theorem Mine.top.tw11279390925490393535 : True := trivial
theorem Mine.top.tw11334415319851112604 : True := trivial
theorem Mine.top.tw11423202765487971197 : True := trivial
theorem Mine.top.tw11430207588045935325 : True := trivial
theorem Mine.top.tw11459358961799972967 : True := trivial
theorem Mine.top.tw11466170419677230873 : True := trivial
theorem Mine.top.tw11613256710310857696 : True := trivial
theorem Mine.top.tw11858546649754279707 : True := trivial
theorem Mine.top.tw11922380849998532372 : True := trivial
theorem Mine.top.tw11960245374511038805 : True := trivial
theorem Mine.top.tw12051765239419890578 : True := trivial
theorem Mine.top.tw12094960947251128927 : True := trivial
theorem Mine.top.tw12216630987165489725 : True := trivial
theorem Mine.top.tw12318557346453588183 : True := trivial
theorem Mine.top.tw12385144161495827662 : True := trivial
theorem Mine.top.tw12425085872883035938 : True := trivial
theorem Mine.top.tw12525680586739955410 : True := trivial
theorem Mine.top.tw12535971307161669396 : True := trivial
theorem Mine.top.tw12540527436937284434 : True := trivial
theorem Mine.top.tw12643491718579748851 : True := trivial
theorem Mine.top.tw12772138429114895339 : True := trivial
theorem Mine.top.tw12787338502077490372 : True := trivial
theorem Mine.top.tw12819366960792805191 : True := trivial
theorem Mine.top.tw13083224199667937846 : True := trivial
theorem Mine.top.tw13091174067606910046 : True := trivial
theorem Mine.top.tw13120753694373217308 : True := trivial
theorem Mine.top.tw13160728816969591200 : True := trivial
theorem Mine.top.tw13177472732611162249 : True := trivial
theorem Mine.top.tw13272337422414781067 : True := trivial
theorem Mine.top.tw13303987763403120937 : True := trivial
theorem Mine.top.tw13359135706311490777 : True := trivial
theorem Mine.top.tw13369591340354186047 : True := trivial
theorem Mine.top.tw13501252493785611398 : True := trivial
theorem Mine.top.tw13506075022893628865 : True := trivial
theorem Mine.top.tw13822267516522204269 : True := trivial
theorem Mine.top.tw13928562000808390012 : True := trivial
theorem Mine.top.tw14142502885225118848 : True := trivial
theorem Mine.top.tw14263998999751124003 : True := trivial
theorem Mine.top.tw14349089067433371257 : True := trivial
theorem Mine.top.tw14371913498598963198 : True := trivial
theorem Mine.top.tw14372152842798730730 : True := trivial
theorem Mine.top.tw14390669486469195807 : True := trivial
theorem Mine.top.tw14402358008270493973 : True := trivial
theorem Mine.top.tw14436450140739016385 : True := trivial
theorem Mine.top.tw14502225709538309166 : True := trivial
theorem Mine.top.tw14608685727046917156 : True := trivial
theorem Mine.top.tw14611434983143301774 : True := trivial
theorem Mine.top.tw14796646475526232899 : True := trivial
theorem Mine.top.tw14823308797102314842 : True := trivial
theorem Mine.top.tw14826035006057030972 : True := trivial
theorem Mine.top.tw14851680436948445374 : True := trivial
theorem Mine.top.tw14861896470697024400 : True := trivial
theorem Mine.top.tw14901070454687303710 : True := trivial
theorem Mine.top.tw14987219478266130788 : True := trivial
theorem Mine.top.tw15023167222840381227 : True := trivial
theorem Mine.top.tw15058813355848621054 : True := trivial
theorem Mine.top.tw15092371282622821202 : True := trivial
theorem Mine.top.tw15169761463676818070 : True := trivial
theorem Mine.top.tw15177526630643400193 : True := trivial
theorem Mine.top.tw15240379268576122478 : True := trivial
theorem Mine.top.tw15299407806266782574 : True := trivial
theorem Mine.top.tw15362295582089109014 : True := trivial
theorem Mine.top.tw15499459402589274338 : True := trivial
theorem Mine.top.tw15569959144833144457 : True := trivial
theorem Mine.top.tw15646934709686841381 : True := trivial
theorem Mine.top.tw15860264024139754761 : True := trivial
theorem Mine.top.tw15865747894454325196 : True := trivial
theorem Mine.top.tw15878805988109762761 : True := trivial
theorem Mine.top.tw16050417384331286980 : True := trivial
theorem Mine.top.tw16058212318047004132 : True := trivial
theorem Mine.top.tw16123964013534891561 : True := trivial
theorem Mine.top.tw16155163154822807229 : True := trivial
theorem Mine.top.tw16156881521677890627 : True := trivial
theorem Mine.top.tw16174758807025615021 : True := trivial
theorem Mine.top.tw16196420915677631385 : True := trivial
theorem Mine.top.tw16204670001084760307 : True := trivial
theorem Mine.top.tw16273406610938067001 : True := trivial
theorem Mine.top.tw16352630495959832749 : True := trivial
theorem Mine.top.tw16420938139371093754 : True := trivial
theorem Mine.top.tw16541100652227675460 : True := trivial
theorem Mine.top.tw16713831800681072344 : True := trivial
theorem Mine.top.tw16759092144687519636 : True := trivial
theorem Mine.top.tw16782997733028217545 : True := trivial
theorem Mine.top.tw16795567611416646642 : True := trivial
theorem Mine.top.tw16840627104734473223 : True := trivial
theorem Mine.top.tw16885616592811714743 : True := trivial
theorem Mine.top.tw16900427199656544559 : True := trivial
theorem Mine.top.tw17143219221351768371 : True := trivial
theorem Mine.top.tw17177869089781658578 : True := trivial
theorem Mine.top.tw17315540178315561739 : True := trivial
theorem Mine.top.tw17323899518341599180 : True := trivial
theorem Mine.top.tw17355269125676882429 : True := trivial
theorem Mine.top.tw17428532607074087071 : True := trivial
theorem Mine.top.tw17463505850718520338 : True := trivial
theorem Mine.top.tw17469865338272021226 : True := trivial
theorem Mine.top.tw17470836177267949868 : True := trivial
theorem Mine.top.tw17486766287000646611 : True := trivial
theorem Mine.top.tw17492772389151264855 : True := trivial
theorem Mine.top.tw17555251805378815213 : True := trivial
theorem Mine.top.tw17565814175750979855 : True := trivial
theorem Mine.top.tw17810072253543177317 : True := trivial
theorem Mine.top.tw17825272241439330880 : True := trivial
theorem Mine.top.tw17886615442053742456 : True := trivial
theorem Mine.top.tw18019038629786789233 : True := trivial
theorem Mine.top.tw18064794426631996164 : True := trivial
theorem Mine.top.tw18085771088847121727 : True := trivial
theorem Mine.top.tw18086089286151905521 : True := trivial
theorem Mine.top.tw18186074749648716422 : True := trivial
open PySem PySem.W PyProof.Rows in
set_option tactic.hygienic true in
set_option Elab.async true in
set_option maxHeartbeats 8000000 in
theorem Mine.top : PySem.Challenge.rw_uc0028_01.Holds := by
  w_on; o_law; k_head; (case hw => w_witness2)
  refine Mine.law_entry ?F ?hd
  case hd => rfl
  exact ⟨rfl, rfl, fun _ => rfl, fun _ => rfl, fun _ => rfl,
    fun _ => ⟨92, _, _, 91, _, rfl, rfl, rfl, rfl, rfl, rfl, Mine.code_1⟩,
    fun _ => ⟨97, _, _, 96, _, rfl, rfl, rfl, rfl, rfl, rfl, Mine.code_1⟩,
    fun _ => ⟨102, _, _, 101, _, rfl, rfl, rfl, rfl, rfl, rfl, Mine.code_3⟩,
    fun _ => ⟨_, rfl⟩, fun _ => ⟨_, rfl⟩, fun _ => ⟨_, rfl⟩, fun _ => ⟨_, rfl⟩,
    fun _ => ⟨124, _, _, rfl, rfl, by repeat (refine ⟨⟨_, _, rfl, rfl⟩, ?_⟩)
                                      exact trivial, rfl, rfl⟩,
    by decide +kernel⟩

theorem PySem.Challenge.cw_uc0028_01_holds : PySem.Challenge.rw_uc0028_01.Holds :=
  Mine.top
